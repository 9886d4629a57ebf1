import PyProof.Rows.All
import PyProof.ExcArgs
import PyProof.ExcAttrAll.IndexError
import PyProof.ExcAttrAll.ValueError
import PyProof.ListNew
import KE.BytesMake
import KE.KLam
import KE.KSliceW
import KE.KNestM
import KE.KRevSl
import KE.KxPercentT
import OpenK.ZHead
import Wide.FinOn
import OpenK.AllK
import Wide.All
import Lean
import PySem.Challenge.RW_rs0082_02
set_option Elab.async false
set_option linter.unusedVariables false
set_option linter.unusedSimpArgs false
section
local macro_rules | `(tactic| omega) => `(tactic| lia)
section
open PySem PySem.W PyProof.Rows
namespace Mine

inductive D where
  | none
  | bool (b : Bool)
  | int (i : Int)
  | str (x : List Nat)
  | bytes (b : List UInt8)
  | tuple (xs : List D)
  | list (xs : List D)
  | rng (a b c : Int)
  | buf (b : List UInt8)
  | mat (x : List Nat) (sp : List Int)
  | pat (a : Addr)

noncomputable abbrev Frz := Addr → Option Obj
noncomputable def Frz.le (g g' : Frz) : Prop := ∀ a o, g a = some o → g' a = some o
noncomputable def Frz.put (g : Frz) (a : Addr) (o : Obj) : Frz := fun b => if b = a then some o else g b

noncomputable abbrev listObj (vs : List Value) (n : Nat) : Obj := { cls := .type "list", data := .seq vs.toArray n }
noncomputable abbrev tupObj (vs : List Value) (n : Nat) : Obj := { cls := .type "tuple", data := .seq vs.toArray n }
noncomputable abbrev rngObj (a b c : Int) (t u v : Tok) : Obj := { cls := .type "range", data := .fields #[.int a t, .int b u, .int c v] }
noncomputable abbrev bufObj (b : List UInt8) : Obj := { cls := .type "bytearray", data := .bytearray b.toArray 0 }

mutual
noncomputable def R (g : Frz) : D → Value → Prop
  | .none, v => v = .none
  | .bool b, v => v = .bool b
  | .int i, v => ∃ t, v = .int i t
  | .str x, v => ∃ t, v = .str ⟨x.toArray⟩ t
  | .bytes b, v => ∃ t, v = .bytes b.toArray t
  | .tuple xs, v => ∃ a vs n, v = .ref a ∧ g a = some (tupObj vs n) ∧ RL g xs vs
  | .list xs, v => ∃ a vs n, v = .ref a ∧ g a = some (listObj vs n) ∧ RL g xs vs
  | .rng a b c, v => ∃ r t u w, v = .ref r ∧ g r = some (rngObj a b c t u w)
  | .buf b, v => ∃ a, v = .ref a ∧ g a = some (bufObj b)
  | .mat x sp, v => ∃ a t p pos lim li sa sn svs, v = .ref a ∧ g a = some { cls := .type "re.Match", data := .fields #[.str ⟨x.toArray⟩ t, p, pos, lim, li, .ref sa] } ∧
      g sa = some (tupObj svs sn) ∧ svs = sp.map rawInt
  | .pat a, v => v = .ref a
noncomputable def RL (g : Frz) : List D → List Value → Prop
  | [], vs => vs = []
  | d :: ds, vs => ∃ v r, vs = v :: r ∧ R g d v ∧ RL g ds r
end

theorem Frz.le_refl (g : Frz) : g.le g := fun _ _ e => e
theorem Frz.le_trans {a b c : Frz} (x : a.le b) (y : b.le c) : a.le c := fun p o e => y p o (x p o e)
theorem Frz.le_put {g : Frz} {a : Addr} {o : Obj} (h : g a = none) : g.le (g.put a o) := fun b x e => by
  unfold Frz.put
  by_cases q : b = a
  · subst q; rw [h] at e; cases e
  · rw [if_neg q]; exact e
theorem Frz.put_self (g : Frz) (a : Addr) (o : Obj) : g.put a o a = some o := by simp [Frz.put]

mutual
theorem R.mono {g g' : Frz} (hg : g.le g') : ∀ {d : D} {v : Value}, R g d v → R g' d v
  | .none, _, h => h
  | .bool _, _, h => h
  | .int _, _, h => h
  | .str _, _, h => h
  | .bytes _, _, h => h
  | .tuple xs, _, h => by
    unfold R at h ⊢
    refine Classical.byContradiction fun ng0 => ?_
    obtain ⟨a, vs, n, e, ha, hl⟩ := h
    refine ng0 ?_
    exact ⟨a, vs, n, e, hg _ _ ha, RL.mono hg hl⟩
  | .list xs, _, h => by
    unfold R at h ⊢
    refine Classical.byContradiction fun ng0 => ?_
    obtain ⟨a, vs, n, e, ha, hl⟩ := h
    refine ng0 ?_
    exact ⟨a, vs, n, e, hg _ _ ha, RL.mono hg hl⟩
  | .rng _ _ _, _, h => by
    unfold R at h ⊢
    refine Classical.byContradiction fun ng0 => ?_
    obtain ⟨r, t, u, w, e, ha⟩ := h
    refine ng0 ?_
    exact ⟨r, t, u, w, e, hg _ _ ha⟩
  | .buf _, _, h => by
    unfold R at h ⊢
    refine Classical.byContradiction fun ng0 => ?_
    obtain ⟨a, e, ha⟩ := h
    refine ng0 ?_
    exact ⟨a, e, hg _ _ ha⟩
  | .mat _ _, _, h => by
    unfold R at h ⊢
    refine Classical.byContradiction fun ng0 => ?_
    obtain ⟨a, t, p, pos, lim, li, sa, sn, svs, e, ha, hs, r⟩ := h
    refine ng0 ?_
    exact ⟨a, t, p, pos, lim, li, sa, sn, svs, e, hg _ _ ha, hg _ _ hs, r⟩
  | .pat _, _, h => h
theorem RL.mono {g g' : Frz} (hg : g.le g') : ∀ {ds : List D} {vs : List Value}, RL g ds vs → RL g' ds vs
  | [], _, h => h
  | d :: ds, vs, h => by
    unfold RL at h ⊢
    refine Classical.byContradiction fun ng0 => ?_
    obtain ⟨v, r, e, hd, hr⟩ := h
    refine ng0 ?_
    exact ⟨v, r, e, R.mono hg hd, RL.mono hg hr⟩
end

theorem RL.length {g : Frz} : ∀ {ds : List D} {vs : List Value}, RL g ds vs → vs.length = ds.length
  | [], vs, h => by unfold RL at h; subst h; rfl
  | d :: ds, vs, h => by
    unfold RL at h
    obtain ⟨v, r, rfl, _, hr⟩ := h
    simp [RL.length hr]
theorem RL.append {g : Frz} : ∀ {ds es : List D} {vs ws : List Value}, RL g ds vs → RL g es ws → RL g (ds ++ es) (vs ++ ws)
  | [], es, vs, ws, h, k => by unfold RL at h; subst h; exact k
  | d :: ds, es, vs, ws, h, k => by
    unfold RL at h
    obtain ⟨v, r, rfl, hv, hr⟩ := h
    exact ⟨v, r ++ ws, rfl, hv, RL.append hr k⟩
theorem RL.nil {g : Frz} : RL g [] [] := rfl
theorem RL.cons {g : Frz} {d : D} {v : Value} {ds : List D} {vs : List Value} (h : R g d v) (k : RL g ds vs) : RL g (d :: ds) (v :: vs) := ⟨v, vs, rfl, h, k⟩
theorem RL.snoc {g : Frz} {d : D} {v : Value} {ds : List D} {vs : List Value} (k : RL g ds vs) (h : R g d v) : RL g (ds ++ [d]) (vs ++ [v]) := k.append (RL.cons h RL.nil)
theorem RL.get {g : Frz} : ∀ {ds : List D} {vs : List Value}, RL g ds vs → ∀ {i : Nat} {d : D}, ds[i]? = some d → ∃ v, vs[i]? = some v ∧ R g d v
  | [], _, _, i, d, e => by simp at e
  | x :: ds, vs, h, i, d, e => by
    unfold RL at h
    obtain ⟨v, r, rfl, hv, hr⟩ := h
    cases i with
    | zero => simp at e; subst e; exact ⟨v, rfl, hv⟩
    | succ j => simp at e; obtain ⟨w, hw, hR⟩ := RL.get hr e; exact ⟨w, by simpa using hw, hR⟩
theorem RL.get' {g : Frz} : ∀ {ds : List D} {vs : List Value}, RL g ds vs → ∀ {i : Nat} {v : Value}, vs[i]? = some v → ∃ d, ds[i]? = some d ∧ R g d v
  | [], _, h, i, d, e => by unfold RL at h; subst h; simp at e
  | x :: ds, vs, h, i, d, e => by
    unfold RL at h
    obtain ⟨v, r, rfl, hv, hr⟩ := h
    cases i with
    | zero => simp at e; subst e; exact ⟨x, rfl, hv⟩
    | succ j => simp at e; obtain ⟨w, hw, hR⟩ := RL.get' hr e; exact ⟨w, by simpa using hw, hR⟩
noncomputable def NsIn (g : Frz) (a : Addr) (m : Str → Option Value) : Prop := ∃ o es ep, g a = some o ∧ o.data = .dict es ep ∧ StrKeys es ∧ ∀ x, nsFind es x = m x

noncomputable def heldIds : List String := ["bytearray.__contains__", "bytearray.__mod__", "bytearray.__rmod__", "_struct.pack_into.held", "bytearray.find.held"] ++ Builtin.Bytes.decodersThatHold
noncomputable def calm : Code → Bool
  | .builtin id _ => !heldIds.contains id
  | _ => true

noncomputable def Clean (Γ : PySem.Ctx) : Prop := calm Γ.code = true ∧ ∀ x ∈ Γ.below, calm x.1 = true

structure Mod where
  prog : Program
  w : World
  mg : Str → Option Value
  mb : Str → Option Value
  tabs : List Addr
  Base : Frz → Prop
  Tab : Frz → Heap → Prop
  mono : ∀ {g g'}, Frz.le g g' → Base g → Base g'
  glob : ∀ {g}, Base g → NsIn g mainGlobals mg
  bltn : ∀ {g}, Base g → NsIn g builtinsNs mb
  nolim : ∀ {g}, Base g → ∃ mc, NsIn g cStatics mc ∧ mc "sys.recursionlimit" = none
  tabKeep : ∀ {g g' h h'}, Frz.le g g' → (∀ a ∈ tabs, h'.get? a = h.get? a) → Tab g h → Tab g' h'
  tabIn : ∀ {g h}, Tab g h → ∀ a ∈ tabs, ∃ o, h.get? a = some o
  codeOf : List (Str × NameKind) → Option (Value × Str)
  top : List (Str × NameKind) → Bool
  codeNo : ∀ ns v, codeOf ns = some v → ns.lookup (".0" : Str) = none
  ok : PySem.Ctx → Prop
  okIn : ∀ Γ c h p, ok Γ → calm c = true → ok (Γ.enter c h p)
  okGo : ∀ Γ c, ok Γ → calm c = true → ok (Γ.goto c)

structure Good (C : Mod) (g : Frz) (s : Shared) : Prop where
  stays : ∀ a o, g a = some o → s.heap.get? a = some o
  base : C.Base g
  tab : C.Tab g s.heap
  apart : ∀ a ∈ C.tabs, g a = none

structure Step (C : Mod) (g : Frz) (s : Shared) (g' : Frz) (s' : Shared) : Prop where
  same : ∃ h tk, s' = { s with heap := h, toks := tk }
  grow : g.le g'
  fresh : ∀ a o, s.heap.get? a = some o → g' a = g a
  keep : ∀ a o, a ∉ C.tabs → s.heap.get? a = some o → s'.heap.get? a = some o
  good : Good C g' s'

theorem Step.refl {C : Mod} {g : Frz} {s : Shared} (h : Good C g s) : Step C g s g s :=
  ⟨⟨s.heap, s.toks, rfl⟩, g.le_refl, fun _ _ _ => rfl, fun _ _ _ e => e, h⟩
theorem Step.trans {C : Mod} {g g' g'' : Frz} {s s' s'' : Shared} (x : Step C g s g' s') (y : Step C g' s' g'' s'') : Step C g s g'' s'' := by
  refine ⟨?_, Frz.le_trans x.grow y.grow, fun a o h => ?_, fun a o n e => y.keep a o n (x.keep a o n e), y.good⟩
  · obtain ⟨h, t, rfl⟩ := x.same
    obtain ⟨h', t', rfl⟩ := y.same
    exact ⟨h', t', rfl⟩
  · by_cases q : a ∈ C.tabs
    · rw [y.good.apart a q, ← x.fresh a o h, x.good.apart a q]
    · exact (y.fresh a o (x.keep a o q h)).trans (x.fresh a o h)

theorem Step.of {C : Mod} {g g' : Frz} {s : Shared} {h : Heap} {tk : Nat} (G : Good C g s) (hg : g.le g') (hf : ∀ a o, s.heap.get? a = some o → g' a = g a)
    (hs : ∀ a o, g' a = some o → h.get? a = some o) (hk : ∀ a o, s.heap.get? a = some o → h.get? a = some o) : Step C g s g' { s with heap := h, toks := tk } :=
  ⟨⟨h, tk, rfl⟩, hg, hf, fun a o _ e => hk a o e, ⟨hs, C.mono hg G.base, C.tabKeep hg (fun a ha => by
      obtain ⟨o, ho⟩ := C.tabIn G.tab a ha
      rw [hk a o ho, ho]) G.tab, fun a ha => by
      obtain ⟨o, ho⟩ := C.tabIn G.tab a ha
      rw [hf a o ho]; exact G.apart a ha⟩⟩

theorem Step.toks {C : Mod} {g : Frz} {s : Shared} (G : Good C g s) (tk : Nat) : Step C g s g { s with toks := tk } :=
  Step.of (h := s.heap) G g.le_refl (fun _ _ _ => rfl) G.stays (fun _ _ e => e)

theorem Step.grew {C : Mod} {g : Frz} {s : Shared} {h : Heap} {tk : Nat} (G : Good C g s) (hk : ∀ a o, s.heap.get? a = some o → h.get? a = some o) :
    Step C g s g { s with heap := h, toks := tk } := Step.of G g.le_refl (fun _ _ _ => rfl) (fun a o e => hk a o (G.stays a o e)) hk

theorem Heap.get?_size (h : Heap) : h.get? h.objs.size = none := by
  cases e : h.get? h.objs.size with
  | none => rfl
  | some o => exact absurd (Heap.lt_size e) (Nat.lt_irrefl _)

theorem Good.none {C : Mod} {g : Frz} {s : Shared} (G : Good C g s) {a : Addr} (h : s.heap.get? a = none) : g a = none := by
  cases e : g a with
  | none => rfl
  | some o => rw [G.stays _ _ e] at h; cases h

theorem Good.new {C : Mod} {g : Frz} {s : Shared} (G : Good C g s) : g s.heap.objs.size = Option.none := G.none (Heap.get?_size _)

theorem Step.push {C : Mod} {g : Frz} {s : Shared} (G : Good C g s) (o : Obj) (ho : o.isFreed = false) (tk : Nat) :
    Step C g s (g.put s.heap.objs.size o) { s with heap := s.heap.push o, toks := tk } := by
  refine Step.of G (Frz.le_put G.new) (fun a x ha => ?_) (fun a x e => ?_) (fun a x e => Heap.get?_push_of_some o e)
  · unfold Frz.put; rw [if_neg (Nat.ne_of_lt (Heap.lt_size ha))]
  · unfold Frz.put at e
    split at e
    · rename_i q; cases e; subst q; exact Heap.get?_push_size _ ho
    · exact Heap.get?_push_of_some o (G.stays a x e)

noncomputable abbrev Mod.M (C : Mod) : Model := model C.prog C.w

structure Room (n : Nat) (A : Around) : Prop where
  handled : A.handled = none
  depth : A.depth + n < 900
  units : A.units + 8 * n < 9000
theorem Room.mono {n m : Nat} {A : Around} (h : Room n A) (k : m ≤ n) : Room m A := ⟨h.handled, by have := h.depth; omega, by have := h.units; omega⟩

noncomputable def Gives (C : Mod) (A : Around) (g : Frz) (s : Shared) (t : Sem Value) (d : D) : Prop :=
  ∀ (E : Value → Shared → Prop) (Q : Value → Shared → Prop), (∀ v g' s', Step C g s g' s' → R g' d v → Q v s') → wpAny C.M A t Q E s

noncomputable def wpC {α : Type} (C : Mod) (A : Around) (t : Sem α) (Q : α → Shared → Prop) (E : Value → Shared → Prop) (s : Shared) : Prop :=
  ∀ Γ p, Γ.In A → C.ok Γ → Sem.wp C.M Γ t (fun a _ s' => Q a s') (fun e _ s' => E e s') p s
noncomputable def codeC (C : Mod) (A : Around) (c : Code) (R : Result → Shared → Prop) (s : Shared) : Prop :=
  ∀ Γ p, Γ.code = c → Γ.Below A → C.ok Γ → wpCode C.M Γ R p s

noncomputable def GivesC (C : Mod) (A : Around) (g : Frz) (s : Shared) (t : Sem Value) (d : D) : Prop :=
  ∀ (E : Value → Shared → Prop) (Q : Value → Shared → Prop), (∀ v g' s', Step C g s g' s' → R g' d v → Q v s') → wpC C A t Q E s
noncomputable def YieldsC {α : Type} (C : Mod) (A : Around) (g : Frz) (s : Shared) (t : Sem α) (P : Frz → Shared → α → Prop) : Prop :=
  ∀ (E : Value → Shared → Prop) (Q : α → Shared → Prop), (∀ v g' s', Step C g s g' s' → P g' s' v → Q v s') → wpC C A t Q E s

section
variable {C : Mod} {A : Around} {s : Shared} {E : Value → Shared → Prop}
theorem wpC_of {α : Type} {t : Sem α} {Q : α → Shared → Prop} (h : wpAny C.M A t Q E s) : wpC C A t Q E s := fun Γ p i _ => h Γ p i
theorem codeC_of {c : Code} {R : Result → Shared → Prop} (h : codeAny C.M A c R s) : codeC C A c R s := fun Γ p i j _ => h Γ p i j
theorem Gives.c {g : Frz} {t : Sem Value} {d : D} (h : Gives C A g s t d) : GivesC C A g s t d := fun E Q q => wpC_of (h E Q q)
theorem wpC_any {α : Type} (hC : ∀ Γ, C.ok Γ) {t : Sem α} {Q : α → Shared → Prop} (h : wpC C A t Q E s) : wpAny C.M A t Q E s := fun Γ p i => h Γ p i (hC Γ)
end

end Mine
end
section
open PySem PySem.W PyProof.Rows
namespace Mine

noncomputable abbrev lim : Nat := 16777216

noncomputable def D.toPy : Nat → D → Option PyData
  | 0, _ => Option.none
  | n + 1, d => match d with
    | .none => some .none
    | .bool b => some (.bool b)
    | .int i => some (.int i)
    | .str x => if x.all (fun c => decide (c < 55296)) then some (.str ⟨x.toArray⟩) else Option.none
    | .list xs => (xs.mapM (D.toPy n)).map .list
    | .tuple xs => (xs.mapM (D.toPy n)).map .tuple
    | _ => Option.none
noncomputable def D.eqb (a b : D) : Option Bool := do some (PyData.eqv (← D.toPy 8 a) (← D.toPy 8 b))

noncomputable def joined (sep : List Nat) : List (List Nat) → List Nat
  | [] => []
  | [x] => x
  | x :: y :: r => x ++ sep ++ joined sep (y :: r)

noncomputable abbrev Names := List (Str × NameKind)

noncomputable def isVar : Option NameKind → Bool
  | some .local | some .cell | some .free => true
  | _ => false

noncomputable def isCall0 : Expr → Bool
  | .Call (.Name _ _) [] [] _ => true
  | _ => false

noncomputable def isStar : Expr → Bool
  | .Starred .. => true
  | _ => false

noncomputable def isSet : Expr → Bool
  | .Set .. => true
  | _ => false

noncomputable def compNames (sc inner : Names) : Names := inner.map fun p => if p.2 == .free && sc.lookup p.1 == some .cell then (p.1, .cell) else p
noncomputable def compOk (sc : Names) (scope : Scope) : Bool := scope.kind == .function && scope.names.all fun p => match p.2 with
  | .local => scope.names.lookup p.1 == some .local
  | .free => scope.names.lookup p.1 == some .free && (sc.lookup p.1 == some .cell || sc.lookup p.1 == some .free)
  | .globalImplicit => true
  | _ => false

end Mine
end
section
open PySem PySem.W PySem.Calls PyProof.Rows
namespace Mine
open Sem (wp)

noncomputable def wpK {α : Type} (M : Model) (A : Around) (t : Sem α) (Q : α → Shared → Prop) (E : Value → Shared → Prop) (s : Shared) : Prop :=
  ∀ Γ p, Γ.In A → Clean Γ → wp M Γ t (fun a _ s' => Q a s') (fun e _ s' => E e s') p s

section
variable {α β : Type} {M : Model} {A : Around} {E : Value → Shared → Prop} {s : Shared}
theorem wpK_of {t : Sem α} {Q : α → Shared → Prop} (h : wpAny M A t Q E s) : wpK M A t Q E s := fun Γ p i _ => h Γ p i
theorem wpK_mono {t : Sem α} {Q Q' : α → Shared → Prop} {E' : Value → Shared → Prop} (h : wpK M A t Q E s) (hQ : ∀ a s, Q a s → Q' a s) (hE : ∀ e s, E e s → E' e s) : wpK M A t Q' E' s :=
  fun Γ p i j => Sem.wp_mono M Γ t (fun a _ s => hQ a s) (fun e _ s => hE e s) p s (h Γ p i j)
theorem wpK_bind {t : Sem α} {f : α → Sem β} {Q : β → Shared → Prop} (h : wpK M A t (fun a s' => wpK M A (f a) Q E s') E s) : wpK M A (t >>= f) Q E s := fun Γ p i j => by
  rw [Sem.wp_bind']
  exact Sem.wp_mono M Γ t (fun a p' s' h' => h' Γ p' i j) (fun _ _ _ h' => h') p s (h Γ p i j)
end

theorem caller_clean : Clean ⟨.builtin "claim.caller" {}, none, none, [], none⟩ := ⟨by decide +kernel, fun x hx => nomatch hx⟩

theorem thread_ends_K {prog : Program} {w : World} {t : Sem PySem.Fin} {s : Shared} {R : Result → Shared → Prop} (hreg : s.asleep)
    (h : wpK (model prog w) callerA t (fun fin s' => ∃ f, fin = .done f ∧ (R (.ok f) s' ∧ leftWithCleanup s'.gens = false)) (fun e s' => R (.error e) s' ∧ leftWithCleanup s'.gens = false) s) :
    ∃ n r s' s'', runN (denote table) prog w n s ⟨t, .builtin "claim.caller" {}, default, []⟩ = .halted (outcomeOf r) s' ∧
      schedN (denote table) prog w n (.single s ⟨t, .builtin "claim.caller" {}, default, []⟩) = .halted (outcomeOf r) s' ∧ s'.forget = s''.forget ∧ R r s'' := by
  have hw : wp (model prog w) ⟨.builtin "claim.caller" {}, none, none, [], none⟩ t (Sem.finPost (model prog w) ⟨.builtin "claim.caller" {}, none, none, [], none⟩ (fun r s' => R r s' ∧ leftWithCleanup s'.gens = false)) (fun e _ s' => R (.error e) s' ∧ leftWithCleanup s'.gens = false) default s := by
    refine Sem.wp_mono _ _ t (fun fin p' s' h' => ?_) (fun _ _ _ h' => h') default s (h _ default caller_in caller_clean)
    refine Classical.byContradiction fun ng0 => ?_
    obtain ⟨f, rfl, hf⟩ := h'
    refine ng0 ?_
    exact hf
  refine Classical.byContradiction fun ng0 => ?_
  obtain ⟨n, r, s₁, s₂, hs, hn, hfo, hR⟩ := wp_halts_full (M := model prog w) (R := R) hreg hw
  refine ng0 ?_
  exact ⟨n, r, s₂, s₁, hn, hs, hfo, hR⟩

theorem callFrom_K {c : ClaimW} {tree : List Value → Sem PySem.Fin} {w : World} {s : Shared} {free : Addr → Prop} {gens : Prop} {kept : Heap → Prop} (hz : s.asleep) (hgens : s.gens = #[])
    (spec : ∀ args, c.pre args = true → WData.layableAll args = true → ∀ ord : List DictEntry → List DictEntry, (∀ l, (ord l).Perm l) →
      ∃ vs s₁, layAllW c.records (classAt s.heap) w.params ord args s = some (vs, s₁) ∧
        wpK (model c.prog w) callerA (tree vs) (fun fin s' => ∃ f, fin = .done f ∧ (c.Ends s args vs s₁ (.ok f) s' ∧ s'.os = s.os ∧ AllBare s'.gens ∧ kept s'.heap))
          (fun e s' => c.Ends s args vs s₁ (.error e) s' ∧ s'.os = s.os ∧ AllBare s'.gens ∧ kept s'.heap) s₁) :
    c.CallFrom (fun vs => ⟨tree vs, .builtin "claim.caller" {}, default, []⟩) w free gens kept s := fun args hpre hlay ord hord => by
  refine Classical.byContradiction fun ng => ?_
  obtain ⟨vs, s₁, hlaid, hcode⟩ := spec args hpre hlay ord hord
  have hal := layAllW_rest _ _ _ hlaid
  obtain ⟨k, r, s', s'', hrun, hsched, hfo, hcase, hos, hkp⟩ := thread_ends_K (prog := c.prog) (w := w) (t := tree vs) (s := s₁) (R := fun r s' => c.Ends s args vs s₁ r s' ∧ s'.os = s.os ∧ kept s'.heap)
    (Shared.asleep_of_life hal.2.2.2 hz)
    (wpK_mono hcode (fun fin s' ⟨f, e, h1, h2, h3, h4⟩ => ⟨f, e, ⟨h1, h2, h4⟩, leftWithCleanup_false_of_bare h3⟩) fun e s' ⟨h1, h2, h3, h4⟩ => ⟨⟨h1, h2, h4⟩, leftWithCleanup_false_of_bare h3⟩)
  obtain ⟨eh, _, _, eo, _⟩ := Shared.forget_eq hfo
  have hcase := hcase.congr eh
  have hkp : kept s'.heap := by rw [eh]; exact hkp
  have hos : s'.os = s.os := by rw [eo]; exact hos
  have hlife : s'.heap.life = s.heap.life := (runN_life _ _ _ hrun).trans hal.2.2.2
  refine ng ⟨vs, s₁, hlaid, k, _, s', hsched, ?_, (fun _ i x hx => by rw [hgens] at hx; simp at hx), hkp, by rw [hlife], Shared.rest_eq hos⟩
  exact hcase.elim (fun x => x.elim fun v h => .inl ⟨v, by rw [h.1]; rfl, h.2.1, h.2.2.1, h.2.2.2.1, fun b o y _ => h.2.2.2.2.1 b o y, h.2.2.2.2.2⟩)
    fun x => x.elim fun e x => x.elim fun ob x => x.elim fun cls h => .inr ⟨e, ob, cls, by rw [h.1]; rfl, h.2.1, h.2.2.1, h.2.2.2.1, h.2.2.2.2.1, fun b o y _ => h.2.2.2.2.2 b o y⟩
end Mine
end
section
open PySem PySem.W PySem.Calls PyProof.Rows
namespace Mine
open Sem (wp)

noncomputable abbrev WalkK (q : Program) (loose : List Str) (XP : (Str → Option Value) → Heap → Prop) (YP : World → Heap → Prop) (r : RowW) (d : DefRec) (kwd : List (Str × Expr)) : Prop :=
  ∀ (w : World) (s₀ s₁ : Shared) (mg mb : Str → Option Value), Ground q loose r.records XP w s₀ mg mb s₁.heap → YP w s₁.heap → ∀ (a : Addr) (o : Obj) (pm cd doc dV kV : Value), s₁.heap.get? a = some o →
    o.data = .func { docDef d.name d.params d.body d.scope pm cd doc with defaults := dV, kwdefaults := kV } → s₁.heap.CodeRec cd d.name → Dflts mg s₁.heap d.params kwd dV kV → mg d.name = some (.ref a) → s₁.gens = #[] →
    ∀ (args : List WData) (vals : List Value) (as : List Addr), r.claim.pre args = true → WData.layableAll args = true → ReadsAllW r.records (classAt s₀.heap) s₁.heap vals args as → WellAll w.params s₁.heap vals args → (∀ a ∈ as, (a == sysModules) = false) → Laid r.records w s₀ s₁ args vals as →
      wpK (model r.prog w) callerA (PySem.call (.ref a) vals) (fun v s' => GoodWG r.claim (classAt s₀.heap) (ExcName.means s₀.heap) args s₁ (.ok (.ret v)) s')
        (fun e s' => GoodWG r.claim (classAt s₀.heap) (ExcName.means s₀.heap) args s₁ (.error e) s') s₁

theorem PySem.W.holds_open {r : OpenRow} {q : Program} {loose : List Str} {Xt : Shared → Bool} {XP : (Str → Option Value) → Heap → Prop} {α : Type} {Yf : Shared → α} {Ya : World → α} {YP : World → Heap → Prop} {d : DefRec} {kwd : List (Str × Expr)} {N : Nat}
    (left : LeftO r.prog q loose Xt Yf Ya N) (hY : ∀ w s, Yf s = Ya w → YP w s.heap) (hYk : ∀ w h h', YP w h → (∀ b o, h.get? b = some o → h'.get? b = some o) → YP w h')
    (hX : ∀ s, Xt s = true → XP (s.heap.nsMap mainGlobals) s.heap) (hXk : ∀ mg h h', XP mg h → (∀ b o, h.get? b = some o → h'.get? b = some o) → XP mg h')
    (hdef : defOf q r.name = some (d, kwd)) (hp : r.prog.theDef r.name = some (d.params, d.body, d.scope)) (hk : kwWritten? d.params.kwonlyargs d.params.kw_defaults = some kwd) (hRf : ∀ s, Xt s = true → RecFacts r.records s.heap) (hwr : (!r.writes || r.records.isEmpty) = true)
    (k1 : r.wellSaid = true) (ok : (chainsOk q && opensWell r.prog && (frees r.toRowW && r.within.isEmpty)) = true) (hb : r.prog.bare) (hw : r.toRowW.promised)
    (walk : WalkK q loose XP YP r.toRowW d kwd) : r.Holds := by
  obtain ⟨ok1, k5⟩ := Bool.and_eq_true_iff.mp ok
  obtain ⟨hch, o1⟩ := Bool.and_eq_true_iff.mp ok1
  obtain ⟨k5, k6⟩ := Bool.and_eq_true_iff.mp k5
  obtain ⟨hsame, hu, ha, hap, hm⟩ := frees_parts k5
  have hi := ident_freeW hu ha hap
  have hwi : r.toRowW.claim.within = [] := List.isEmpty_iff.mp k6
  refine ⟨k1, hw, ⟨hb, o1, by show r.makers.map _ = []; rw [hm]; rfl⟩, hw.witness, fun w => ⟨(left.behind hX hch w).1, fun s' hs' => ?_⟩⟩
  refine Classical.byContradiction fun ng => ?_
  obtain ⟨s₀, hf, hg0, s, hT, hz, hgens, hg, G00, y⟩ := (left.behind (XP := fun mg h => XP mg h ∧ RecFacts r.records h) (fun s hs => ⟨hX s hs, hRf s hs⟩) hch w).2 s' hs'
  have G0 : Ground q loose [] XP w s (s.heap.nsMap mainGlobals) (s.heap.nsMap builtinsNs) s.heap := ⟨G00.T, G00.B, G00.D, G00.TE, G00.TD, G00.W, G00.X.1, G00.cls, G00.has, G00.apart, G00.once, G00.K⟩
  have RF := G00.X.2
  have pin : ∀ n ∈ (if r.pinned then [r.name] else []), isTheDefsW r.prog s.heap n := fun n hn => by
    obtain rfl : n = r.name := by split at hn <;> simp_all
    exact pinned_of_view hg G0 hdef hp hk
  refine ng ⟨s₀, hf, hg0, s, hT, pin, RF.1, RF.2.1, ?_⟩
  have hgens : s.gens = #[] := Array.eq_empty_of_size_eq_zero (beq_iff_eq.mp hgens)
  have G : Ground q loose r.records XP w s _ _ s.heap := RF.ground G0
  refine callFrom_K (c := r.toRowW.claim) (tree := fun vs => do match ← nsGet mainNs r.name with
      | some f => do ret (← PySem.call f vs)
      | none => unsupported "claim.caller:no-such-global") hz hgens fun args hpre hlay ord hord => ?_
  refine Classical.byContradiction fun nh => ?_
  obtain ⟨⟨vs, s₁⟩, hlaid⟩ := Option.isSome_iff_exists.mp (layAllW_isSome (P := w.params) (ord := ord) G.has args r.args s (pre_splitW hpre).1)
  have keeps := layAllW_keeps _ _ _ hlaid
  have hal := layAllW_rest _ _ _ hlaid
  obtain ⟨as, hrd, hin, hold⟩ := reads_layAllW hord _ _ _ hlaid hlay s₁.heap (fun _ _ e => e)
  have L : Laid r.records w s s₁ args vs as := ⟨⟨ord, hord, hlaid⟩, hrd, hin, hold, keeps, hal.1.trans hgens, hal.2.2.1⟩
  have G₁ := G.keeps hXk keeps
  obtain ⟨a, o, pm, cd, doc, dV, kV, h1, h2, h3, h4, h5⟩ := G₁.fn hdef
  have hn := defOf_name hdef
  have hwalk := walk w s s₁ _ _ G₁ (hYk _ _ _ (hY w s y) keeps) a o pm cd doc dV kV h2 h3 h4 h5 (hn ▸ h1) L.gens args vs as hpre hlay L.reads L.well (L.low G.low) L
  refine nh ⟨vs, s₁, hlaid, ?_⟩
  refine wpK_bind (wpK_of (wpAny_nsGet G₁.T.g ?_))
  rw [h1]
  refine wpK_bind (wpK_mono hwalk (fun v s' g => wpK_of (wpAny_pure ⟨_, rfl, ?_⟩)) fun e s' g => ?_)
  · have z := g.laid (c := r.toRowW.claim) hsame hwi hi L
    exact ⟨z.1, z.2.1, z.2.2, fun q => ⟨namesKept_of hT hg r.keeps keeps g.2.1.old, noTable hwr q⟩⟩
  · have z := g.laid (c := r.toRowW.claim) hsame hwi hi L
    exact ⟨z.1, z.2.1, z.2.2, fun q => ⟨namesKept_of hT hg r.keeps keeps g.2.1.old, noTable hwr q⟩⟩
end Mine
end
section
open PySem PySem.W PySem.Calls PyProof.Rows
set_option maxRecDepth 100000
namespace Mine
noncomputable abbrev pL := PySem.Challenge.pw_rs0082_02
noncomputable def findDef (p : Program) (f : Str) : Option (Arguments × List Stmt × Scope) := p.main.body.findSome? fun st => match st with
  | .FunctionDef n a b _ _ _ sc _ _ _ => if n = f then some (a, b, sc) else none
  | _ => none
noncomputable def bodyOf (f : Str) : List Stmt := match findDef pL f with | some (_, b, _) => b | none => []
noncomputable def namesOf (f : Str) : Names := match findDef pL f with | some (_, _, s) => s.names | none => []
noncomputable abbrev codeTok : Array Nat := #[14, 4, 0, 1, 4294967295, 6, 0, 24, 9, 0, 4294967295, 13, 4, 8, 12, 0, 1, 17, 0, 24, 19, 1, 4294967295, 13, 14, 21, 9, 0, 671092736, 0, 0, 0, 0, 0, 0, 8, 12, 0, 1, 17, 1, 1]
noncomputable abbrev codeQuo : Array Nat := #[14, 4, 0, 3, 4294967295, 6, 0, 24, 9, 0, 4294967295, 13, 4, 8, 12, 0, 1, 16, 61, 24, 9, 0, 4294967295, 13, 4, 8, 12, 0, 1, 16, 34, 17, 0, 24, 12, 0, 4294967295, 13, 7, 21, 16, 34, 16, 92, 0, 1, 23, 19, 0, 4294967295, 16, 92, 2, 24, 12, 0, 4294967295, 13, 7, 21, 16, 34, 16, 92, 0, 1, 18, 17, 1, 16, 34, 1]
noncomputable abbrev codeVal : Array Nat := #[14, 4, 0, 1, 4294967295, 6, 0, 24, 9, 0, 4294967295, 13, 4, 8, 12, 0, 1, 16, 61, 24, 9, 0, 4294967295, 13, 4, 8, 12, 0, 1, 17, 0, 24, 14, 0, 4294967295, 13, 9, 21, 8, 12, 16, 59, 16, 44, 0, 1, 17, 1, 1]
noncomputable abbrev codeEsc : Array Nat := #[14, 8, 1, 2, 2, 1, 1, 92, 0, 16, 92, 17, 0, 2, 17, 1, 1]
noncomputable abbrev codeTwin : Array Nat := #[14, 4, 0, 0, 4294967295, 6, 0, 24, 13, 0, 4294967295, 13, 8, 16, 61, 8, 12, 16, 59, 0, 1, 1]
noncomputable abbrev codeJTok : Array Nat := #[14, 4, 0, 1, 4294967295, 24, 16, 1, 4294967295, 13, 11, 9, 0, 67071226, 3355443198, 1476395007, 0, 0, 0, 0, 0, 1, 1]
noncomputable abbrev codeJEsc : Array Nat := #[14, 9, 4, 1, 1, 16, 34, 16, 92, 0, 17, 0, 13, 6, 16, 34, 16, 92, 0, 17, 1, 1]

noncomputable def bPairs : List (Str × Value) := [("len", .builtin "len"), ("ord", .builtin "ord"), ("chr", .builtin "chr"), ("range", .type "range"), ("bytes", .type "bytes"), ("ValueError", .type "ValueError"), ("IndexError", .type "IndexError"), ("isinstance", .builtin "isinstance"), ("str", .type "str"), ("bytearray", .type "bytearray")]
inductive Fn where
  | unm | swap | join | spl | tur | clo | rea | wri
noncomputable def Fn.name : Fn → Str
  | .unm => "unmatched" | .swap => "_byteswap" | .join => "join_header_words" | .spl => "split_header_words" | .tur => "_law_turned" | .clo => "_law_closed" | .rea => "_law_read" | .wri => "_law_written"
noncomputable def Fn.ps : Fn → List Str
  | .unm => ["match"] | .swap => ["data", "width"] | .join => ["lists"] | .spl => ["header_values"] | .tur => ["text", "width"] | .clo => ["image"] | .rea => ["text", "closed"] | .wri => ["name", "value"]
/-! the module of the law, from the written heap -/
noncomputable def objAt (K : Frag) (a : Addr) : Obj := (K.lookup a).getD default
noncomputable def fdAt (K : Frag) (a : Addr) : Option FuncData := match (objAt K a).data with | .func fd => some fd | _ => none
structure FnIn (K : Frag) (f : Str) (a : Addr) (ps : List Str) (fd : FuncData) : Prop where
  lk : K.lookup a = some (objAt K a)
  fdk : fdAt K a = some fd
  gl : nsIn K mainGlobals f = some (some (.ref a))
  code : codeIn K fd.code fd.qualname = true
  body_ : fd.body = .stmts (bodyOf f)
  bind : ∀ vals : List Value, vals.length = ps.length → bindArgs fd ⟨vals, []⟩ = pure (ps.zip vals)
  clo : fd.closure = []
  kind : fd.scope.kind = .function
  co : fd.scope.isCoroutine = false
  gen : fd.scope.isGenerator = false
  names_ : fd.scope.names = namesOf f
  glob : fd.globals = mainGlobals
  blt : fd.builtins = builtinsNs
noncomputable def qSpl : Str := "split_header_words.<locals>."
noncomputable def qJoi : Str := "join_header_words.<locals>."
noncomputable def cOf (ns : Names) : Option (Value × Str) :=
  if (ns.lookup (".0" : Str)).isSome then none
  else if (ns.lookup ("header_values" : Str)).isSome then some (.ref 69, qSpl)
  else if (ns.lookup ("headers" : Str)).isSome then some (.ref 86, qJoi) else none
theorem cOf_no (ns : Names) (v : Value × Str) (h : cOf ns = some v) : ns.lookup (".0" : Str) = none := by
  unfold cOf at h
  split at h
  · cases h
  · rename_i e; exact Option.not_isSome_iff_eq_none.mp e
structure KPat (K : Frag) (x : Str) (a : Addr) (code : Array Nat) (groups : Nat) : Prop where
  gl : nsIn K mainGlobals x = some (some (.ref a))
  at_ : ∃ p fl ct cn, K.lookup a = some { cls := .type "re.Pattern", data := .fields #[p, fl, .int groups 0, .none, .none, .ref ct, .int 0 0] } ∧ K.lookup ct = some (tupObj (code.toList.map fun (c : Nat) => rawInt (c : Int)) cn)
noncomputable def Fn.at : Fn → Addr
  | .unm => 43 | .swap => 94 | .join => 87 | .spl => 70 | .tur => 99 | .clo => 106 | .rea => 111 | .wri => 116
structure KOK (K : Frag) : Prop where
  fn : ∀ f : Fn, ∃ fd, FnIn K f.name f.at f.ps fd ∧ ∀ v, cOf (namesOf f.name) = some v → fd.code = v.1 ∧ fd.qualname ++ ".<locals>." = v.2
  law : ∃ fd, FnIn K "law" 121 ["script"] fd
  free : ∀ i (h : i < 10), nsIn K mainGlobals (bPairs[i]'h).1 = some none
  gT : KPat K "HEADER_TOKEN_RE" 48 codeTok 1
  gQ : KPat K "HEADER_QUOTED_VALUE_RE" 53 codeQuo 1
  gV : KPat K "HEADER_VALUE_RE" 58 codeVal 1
  gW : KPat K "_twin_re_7" 36 codeTwin 0
  gJ : KPat K "HEADER_JOIN_TOKEN_RE" 75 codeJTok 0
  gE : KPat K "HEADER_ESCAPE_RE" 63 codeEsc 1
  gJE : KPat K "HEADER_JOIN_ESCAPE_RE" 80 codeJEsc 1
  hd1 : codeHdIn K 69 65 = true
  hd2 : codeHdIn K 86 82 = true
  no1 : K.lookup 65 = none
  no2 : K.lookup 82 = none
noncomputable def pOf (K : Frag) (a : Addr) (i : Nat) : Value := match (objAt K a).data with | .fields vs => vs.getD i .none | _ => .none
noncomputable def rOf : Value → Addr | .ref a => a | _ => 0
noncomputable def nOf (o : Obj) : Nat := match o.data with | .seq _ n => n | _ => 0
theorem kpat_of {K : Frag} {x : Str} {a : Addr} {code : Array Nat} {groups : Nat} (h1 : nsIn K mainGlobals x = some (some (.ref a))) (h2 : K.lookup a = some { cls := .type "re.Pattern", data := .fields #[pOf K a 0, pOf K a 1, .int groups 0, .none, .none, .ref (rOf (pOf K a 5)), .int 0 0] })
    (h3 : K.lookup (rOf (pOf K a 5)) = some (tupObj (code.toList.map fun (c : Nat) => rawInt (c : Int)) (nOf (objAt K (rOf (pOf K a 5)))))) : KPat K x a code groups := ⟨h1, _, _, _, _, h2, h3⟩
theorem fnIn_of {K : Frag} {f : Str} {a : Addr} {ps : List Str} (h : (fdAt K a).isSome = true) (h1 : K.lookup a = some (objAt K a)) (h2 : nsIn K mainGlobals f = some (some (.ref a))) (h3 : codeIn K ((fdAt K a).get h).code ((fdAt K a).get h).qualname = true)
    (h4 : ((fdAt K a).get h).body = .stmts (bodyOf f)) (h5 : ∀ vals : List Value, vals.length = ps.length → bindArgs ((fdAt K a).get h) ⟨vals, []⟩ = pure (ps.zip vals)) (h6 : ((fdAt K a).get h).closure = []) (h7 : ((fdAt K a).get h).scope.kind = .function)
    (h8 : ((fdAt K a).get h).scope.isCoroutine = false) (h9 : ((fdAt K a).get h).scope.isGenerator = false) (h10 : ((fdAt K a).get h).scope.names = namesOf f) (h11 : ((fdAt K a).get h).globals = mainGlobals) (h12 : ((fdAt K a).get h).builtins = builtinsNs) : ∃ fd, FnIn K f a ps fd ∧ fd = (fdAt K a).get h :=
  ⟨(fdAt K a).get h, ⟨h1, by simp, h2, h3, h4, h5, h6, h7, h8, h9, h10, h11, h12⟩, rfl⟩
theorem fnC_no {K : Frag} {f : Str} {a : Addr} {ps : List Str} {h : (fdAt K a).isSome = true} (x : ∃ fd, FnIn K f a ps fd ∧ fd = (fdAt K a).get h) (hc : cOf (namesOf f) = none) : ∃ fd, FnIn K f a ps fd ∧ ∀ v, cOf (namesOf f) = some v → fd.code = v.1 ∧ fd.qualname ++ ".<locals>." = v.2 := by
  refine Classical.byContradiction fun ng0 => ?_
  obtain ⟨fd, h1, _⟩ := x
  refine ng0 ?_
  exact ⟨fd, h1, fun v e => by rw [hc] at e; cases e⟩
theorem fnC_yes {K : Frag} {f : Str} {a : Addr} {ps : List Str} {h : (fdAt K a).isSome = true} (x : ∃ fd, FnIn K f a ps fd ∧ fd = (fdAt K a).get h) {u : Value × Str} (hc : cOf (namesOf f) = some u) (h1 : ((fdAt K a).get h).code = u.1) (h2 : ((fdAt K a).get h).qualname ++ ".<locals>." = u.2) :
    ∃ fd, FnIn K f a ps fd ∧ ∀ v, cOf (namesOf f) = some v → fd.code = v.1 ∧ fd.qualname ++ ".<locals>." = v.2 := by
  refine Classical.byContradiction fun ng0 => ?_
  obtain ⟨fd, h3, rfl⟩ := x
  refine ng0 ?_
  exact ⟨_, h3, fun v e => by rw [hc] at e; cases e; exact ⟨h1, h2⟩⟩
theorem bind1 {fd : FuncData} {p : Str} (h : ∀ v, bindArgs fd ⟨[v], []⟩ = pure [(p, v)]) : ∀ vals : List Value, vals.length = [p].length → bindArgs fd ⟨vals, []⟩ = pure ([p].zip vals)
  | [v], _ => h v
theorem bind2 {fd : FuncData} {p q : Str} (h : ∀ v u, bindArgs fd ⟨[v, u], []⟩ = pure [(p, v), (q, u)]) : ∀ vals : List Value, vals.length = [p, q].length → bindArgs fd ⟨vals, []⟩ = pure ([p, q].zip vals)
  | [v, u], _ => h v u
theorem free_of {P : (i : Nat) → i < 10 → Prop} (h0 : P 0 (by decide)) (h1 : P 1 (by decide)) (h2 : P 2 (by decide)) (h3 : P 3 (by decide)) (h4 : P 4 (by decide)) (h5 : P 5 (by decide)) (h6 : P 6 (by decide)) (h7 : P 7 (by decide)) (h8 : P 8 (by decide)) (h9 : P 9 (by decide)) : ∀ i h, P i h
  | 0, _ => h0 | 1, _ => h1 | 2, _ => h2 | 3, _ => h3 | 4, _ => h4 | 5, _ => h5 | 6, _ => h6 | 7, _ => h7 | 8, _ => h8 | 9, _ => h9
end Mine
end
section
open PySem PySem.W PySem.Calls PyProof.Rows
set_option maxRecDepth 100000
set_option maxHeartbeats 8000000
namespace Mine
theorem said : PySem.Challenge.rw_rs0082_02.wellSaid = true := by
  unfold OpenLaw.wellSaid
  repeat' (with_reducible refine look_both ?_ ?_)
  all_goals decide +kernel
open_top hd for PySem.Challenge.rw_rs0082_02.row
theorem head : ∃ (q : Program) (loose : List Str) (XP : (Str → Option Value) → Heap → Prop) (K : Params → Frag) (as : List Addr) (e : ∀ P, as = (K P).map (·.1)) (d : DefRec) (kwd : List (Str × Expr)), d.name = "law" ∧ (∀ P, KOK (K P)) ∧
    (WalkK q loose XP (kmHook K as e [82, 65]).says PySem.Challenge.rw_rs0082_02.row.toRowW d kwd → PySem.Challenge.rw_rs0082_02.Holds) := by
  refine ⟨_, _, _, _, _, _, _, _, ?_, fun P => ?_, fun walk => holds_law said fun _ => hd walk⟩
  · rfl
  · refine ⟨fun f => ?_, ?_, ?_, kpat_of (by kernel_rfl) (by kernel_rfl) (by kernel_rfl), kpat_of (by kernel_rfl) (by kernel_rfl) (by kernel_rfl), kpat_of (by kernel_rfl) (by kernel_rfl) (by kernel_rfl), kpat_of (by kernel_rfl) (by kernel_rfl) (by kernel_rfl), kpat_of (by kernel_rfl) (by kernel_rfl) (by kernel_rfl), kpat_of (by kernel_rfl) (by kernel_rfl) (by kernel_rfl), kpat_of (by kernel_rfl) (by kernel_rfl) (by kernel_rfl), (by kernel_rfl), (by kernel_rfl), (by kernel_rfl), (by kernel_rfl)⟩
    · cases f with
      | unm => exact fnC_no (fnIn_of (by kernel_rfl) (by kernel_rfl) (by kernel_rfl) (by kernel_rfl) (by kernel_rfl) (bind1 fun _ => by kernel_rfl) (by kernel_rfl) (by kernel_rfl) (by kernel_rfl) (by kernel_rfl) (by kernel_rfl) (by kernel_rfl) (by kernel_rfl)) (by kernel_rfl)
      | swap => exact fnC_no (fnIn_of (by kernel_rfl) (by kernel_rfl) (by kernel_rfl) (by kernel_rfl) (by kernel_rfl) (bind2 fun _ _ => by kernel_rfl) (by kernel_rfl) (by kernel_rfl) (by kernel_rfl) (by kernel_rfl) (by kernel_rfl) (by kernel_rfl) (by kernel_rfl)) (by kernel_rfl)
      | join => exact fnC_yes (fnIn_of (by kernel_rfl) (by kernel_rfl) (by kernel_rfl) (by kernel_rfl) (by kernel_rfl) (bind1 fun _ => by kernel_rfl) (by kernel_rfl) (by kernel_rfl) (by kernel_rfl) (by kernel_rfl) (by kernel_rfl) (by kernel_rfl) (by kernel_rfl)) (u := (.ref 86, qJoi)) (by kernel_rfl) (by kernel_rfl) (by kernel_rfl)
      | spl => exact fnC_yes (fnIn_of (by kernel_rfl) (by kernel_rfl) (by kernel_rfl) (by kernel_rfl) (by kernel_rfl) (bind1 fun _ => by kernel_rfl) (by kernel_rfl) (by kernel_rfl) (by kernel_rfl) (by kernel_rfl) (by kernel_rfl) (by kernel_rfl) (by kernel_rfl)) (u := (.ref 69, qSpl)) (by kernel_rfl) (by kernel_rfl) (by kernel_rfl)
      | tur => exact fnC_no (fnIn_of (by kernel_rfl) (by kernel_rfl) (by kernel_rfl) (by kernel_rfl) (by kernel_rfl) (bind2 fun _ _ => by kernel_rfl) (by kernel_rfl) (by kernel_rfl) (by kernel_rfl) (by kernel_rfl) (by kernel_rfl) (by kernel_rfl) (by kernel_rfl)) (by kernel_rfl)
      | clo => exact fnC_no (fnIn_of (by kernel_rfl) (by kernel_rfl) (by kernel_rfl) (by kernel_rfl) (by kernel_rfl) (bind1 fun _ => by kernel_rfl) (by kernel_rfl) (by kernel_rfl) (by kernel_rfl) (by kernel_rfl) (by kernel_rfl) (by kernel_rfl) (by kernel_rfl)) (by kernel_rfl)
      | rea => exact fnC_no (fnIn_of (by kernel_rfl) (by kernel_rfl) (by kernel_rfl) (by kernel_rfl) (by kernel_rfl) (bind2 fun _ _ => by kernel_rfl) (by kernel_rfl) (by kernel_rfl) (by kernel_rfl) (by kernel_rfl) (by kernel_rfl) (by kernel_rfl) (by kernel_rfl)) (by kernel_rfl)
      | wri => exact fnC_no (fnIn_of (by kernel_rfl) (by kernel_rfl) (by kernel_rfl) (by kernel_rfl) (by kernel_rfl) (bind2 fun _ _ => by kernel_rfl) (by kernel_rfl) (by kernel_rfl) (by kernel_rfl) (by kernel_rfl) (by kernel_rfl) (by kernel_rfl) (by kernel_rfl)) (by kernel_rfl)
    · exact ⟨_, (fnIn_of (by kernel_rfl) (by kernel_rfl) (by kernel_rfl) (by kernel_rfl) (by kernel_rfl) (bind1 fun _ => by kernel_rfl) (by kernel_rfl) (by kernel_rfl) (by kernel_rfl) (by kernel_rfl) (by kernel_rfl) (by kernel_rfl) (by kernel_rfl)).choose_spec.1⟩
    · exact free_of (by kernel_rfl) (by kernel_rfl) (by kernel_rfl) (by kernel_rfl) (by kernel_rfl) (by kernel_rfl) (by kernel_rfl) (by kernel_rfl) (by kernel_rfl) (by kernel_rfl)
end Mine
end
section
open PySem PySem.W PyProof.Rows
namespace Mine
variable {C : Mod} {A : Around} {g : Frz} {s : Shared}

theorem sizeLine_is : sizeLine = 16777216 := by decide
theorem cLine_is' : cLine = 9900 := by decide

theorem R.isList {h : Heap} (hs : ∀ a o, g a = some o → h.get? a = some o) {a : Addr} {vs : List Value} {n : Nat} (e : g a = some (listObj vs n)) : h.IsList a vs.toArray :=
  ⟨_, hs _ _ e, rfl, n, rfl⟩
theorem R.isTup {h : Heap} (hs : ∀ a o, g a = some o → h.get? a = some o) {a : Addr} {vs : List Value} {n : Nat} (e : g a = some (tupObj vs n)) : IsTup h a vs.toArray :=
  ⟨_, hs _ _ e, rfl, n, rfl⟩

theorem strCat (x y : List Nat) : (⟨x.toArray⟩ : Str) ++ ⟨y.toArray⟩ = ⟨(x ++ y).toArray⟩ := by
  show (⟨x.toArray ++ y.toArray⟩ : Str) = _
  rw [List.append_toArray]
theorem strLen (x : List Nat) : Str.length ⟨x.toArray⟩ = x.length := by simp [Str.length]

mutual
theorem toPy_reads {h : Heap} (hs : ∀ a o, g a = some o → h.get? a = some o) : ∀ (n : Nat) {d : D} {p : PyData} {v : Value}, D.toPy n d = some p → R g d v → (∃ as, Reads h v p as) ∧ p.canLay0 = true ∧ p.depth ≤ n
  | 0, _, _, _, e, _ => by simp [D.toPy] at e
  | n + 1, d, p, v, e, r => by
    unfold D.toPy at e
    cases d with
    | none => simp at e; subst e; unfold R at r; subst r; exact ⟨⟨_, .none⟩, rfl, Nat.zero_le _⟩
    | bool b => simp at e; subst e; unfold R at r; subst r; exact ⟨⟨_, .bool b⟩, rfl, Nat.zero_le _⟩
    | int i => simp at e; subst e; unfold R at r; obtain ⟨t, rfl⟩ := r; exact ⟨⟨_, .int i t⟩, rfl, Nat.zero_le _⟩
    | str x =>
      simp only at e
      split at e
      · rename_i hx
        cases e; unfold R at r; obtain ⟨t, rfl⟩ := r
        refine ⟨⟨_, .str _ t⟩, ?_, Nat.zero_le _⟩
        show PyData.strOk _ = true
        simp only [PyData.strOk, List.all_eq_true, decide_eq_true_eq, Array.all_eq_true] at hx ⊢
        intro i hi
        have := hx x[i] (List.getElem_mem _)
        simp; omega
      · cases e
    | list xs =>
      simp only [Option.map_eq_some_iff] at e
      obtain ⟨ps, e, rfl⟩ := e
      unfold R at r; obtain ⟨a, vs, k, rfl, ha, hl⟩ := r
      obtain ⟨⟨as, ra⟩, hc, hd⟩ := toPys_reads hs n xs e hl
      exact ⟨⟨_, .list (hs _ _ ha) rfl rfl (by simpa using ra)⟩, hc, Nat.succ_le_succ hd⟩
    | tuple xs =>
      simp only [Option.map_eq_some_iff] at e
      obtain ⟨ps, e, rfl⟩ := e
      unfold R at r; obtain ⟨a, vs, k, rfl, ha, hl⟩ := r
      obtain ⟨⟨as, ra⟩, hc, hd⟩ := toPys_reads hs n xs e hl
      exact ⟨⟨_, .tuple (hs _ _ ha) rfl rfl (by simpa using ra)⟩, hc, Nat.succ_le_succ hd⟩
    | _ => simp at e
theorem toPys_reads {h : Heap} (hs : ∀ a o, g a = some o → h.get? a = some o) : ∀ (n : Nat) (xs : List D) {ps : List PyData} {vs : List Value}, xs.mapM (D.toPy n) = some ps → RL g xs vs →
    (∃ as, ReadsAll h vs ps as) ∧ PyData.canLayAll0 ps = true ∧ PyData.depthAll ps ≤ n
  | n, [], ps, vs, e, r => by
    simp at e; subst e; unfold RL at r; subst r; exact ⟨⟨_, .nil⟩, rfl, Nat.zero_le _⟩
  | n, x :: xs, ps, vs, e, r => by
    rw [List.mapM_cons] at e
    unfold RL at r; obtain ⟨v, vr, rfl, hv, hr⟩ := r
    cases h1 : D.toPy n x with
    | none => rw [h1] at e; cases e
    | some p =>
      cases h2 : xs.mapM (D.toPy n) with
      | none => rw [h1, h2] at e; cases e
      | some qs =>
        rw [h1, h2] at e; cases e
        refine Classical.byContradiction fun ng0 => ?_
        obtain ⟨⟨as, ra⟩, hc, hd⟩ := toPy_reads hs n h1 hv
        obtain ⟨⟨bs, rb⟩, hc', hd'⟩ := toPys_reads hs n xs h2 hr
        refine ng0 ?_
        refine ⟨⟨_, .cons ra rb⟩, ?_, ?_⟩
        · show (PyData.canLay0 p && PyData.canLayAll0 qs) = true
          rw [hc, hc']; rfl
        · show max (PyData.depth p) (PyData.depthAll qs) ≤ n
          omega
end

theorem eqb_sound {a b : D} {k : Bool} {u v : Value} (e : D.eqb a b = some k) (G : Good C g s) (ha : R g a u) (hb : R g b v) (hu : A.units < 9000)
    {E Q : Value → Shared → Prop} (h : Q (.bool k) s) : wpAny C.M A (compareOp .Eq u v) Q E s := by
  unfold D.eqb at e
  cases h1 : D.toPy 8 a with
  | none => rw [h1] at e; cases e
  | some p =>
    cases h2 : D.toPy 8 b with
    | none => rw [h1, h2] at e; cases e
    | some q =>
      rw [h1, h2] at e; cases e
      refine Classical.byContradiction fun ng0 => ?_
      obtain ⟨⟨as, ra⟩, hc, hd⟩ := toPy_reads G.stays 8 h1 ha
      obtain ⟨⟨bs, rb⟩, hc', hd'⟩ := toPy_reads G.stays 8 h2 hb
      refine ng0 ?_
      exact SeqAt.compareEq_reads ra rb hc hc' (by rw [cLine_is']; omega) h
theorem neb_sound {a b : D} {k : Bool} {u v : Value} (e : D.eqb a b = some k) (G : Good C g s) (ha : R g a u) (hb : R g b v) (hu : A.units < 9000)
    {E Q : Value → Shared → Prop} (h : Q (.bool (!k)) s) : wpAny C.M A (compareOp .NotEq u v) Q E s := by
  unfold D.eqb at e
  cases h1 : D.toPy 8 a with
  | none => rw [h1] at e; cases e
  | some p =>
    cases h2 : D.toPy 8 b with
    | none => rw [h1, h2] at e; cases e
    | some q =>
      rw [h1, h2] at e; cases e
      refine Classical.byContradiction fun ng0 => ?_
      obtain ⟨⟨as, ra⟩, hc, hd⟩ := toPy_reads G.stays 8 h1 ha
      obtain ⟨⟨bs, rb⟩, hc', hd'⟩ := toPy_reads G.stays 8 h2 hb
      refine ng0 ?_
      exact SeqAt.compareNe_reads ra rb hc hc' (by rw [cLine_is']; omega) h

end Mine
end
section
open PySem PySem.W PyProof.Rows
namespace Mine
variable {C : Mod} {A : Around} {g : Frz} {s : Shared} {E : Value → Shared → Prop}

theorem ints_are : ∀ {l : List Int} {vs : List Value}, RL g (l.map .int) vs → IntsAre vs l
  | [], _, r => by cases (show _ = _ from r); exact .nil
  | i :: l, _, ⟨v, vr, e, ⟨t, q⟩, hr⟩ => by subst e q; exact .cons _ t (ints_are hr)

theorem contains_dec (y : List Nat) (c : Nat) : decide (c ∈ (⟨y.toArray⟩ : Str).cps.toList) = y.contains c := by
  show decide (c ∈ y) = y.contains c
  simp [List.contains_eq_mem]
set_option maxRecDepth 100000 in
theorem noBool_mat : typeLookup (.type "re.Match") "__bool__" = pure none := by rw [typeLookup_type, builtinLookup_eq_fast]; kernel_rfl
set_option maxRecDepth 100000 in
theorem noLen_mat : typeLookup (.type "re.Match") "__len__" = pure none := by rw [typeLookup_type, builtinLookup_eq_fast]; kernel_rfl
theorem truthy_other {a : Addr} {T : String} (hT : s.TypeIs (.ref a) T) (h1 : typeLookup (.type T) "__bool__" = pure none) (h2 : typeLookup (.type T) "__len__" = pure none)
    {Q : Bool → Shared → Prop} (h : Q true s) : wpAny C.M A (truthy (.ref a)) Q E s := by
  unfold truthy
  first
    | refine wpAny_bind (wpAny_callSpecial?_none (name := Str.ofString "__bool__") hT h1 ?_)
    | refine wpAny_bind (wpAny_pure (wpAny_bind (wpAny_callSpecial?_none (name := Str.ofString "__bool__") hT h1 ?_)))
  first
    | refine wpAny_bind (wpAny_specialOf (name := Str.ofString "__len__") hT h2 ?_)
    | refine wpAny_bind (wpAny_pure (wpAny_bind (wpAny_specialOf (name := Str.ofString "__len__") hT h2 ?_)))
  exact wpAny_pure h

end Mine
end
section
open PySem PySem.W PyProof.Rows
namespace Mine
variable {C : Mod} {A : Around} {g : Frz} {s : Shared} {E : Value → Shared → Prop}

theorem subscripted_op (slice : Expr) (o i : Value) : ∃ ops, subscripted slice false o i = operate ops (getItem o i) := by
  unfold subscripted
  split
  · exact ⟨_, rfl⟩
  · rename_i h; cases h
  · exact ⟨_, rfl⟩

theorem tail_sound {value slice : Expr} {o i : Value} {T id : String} {Q : Value → Shared → Prop} (hT : s.TypeIs o T)
    (hl : typeLookup (.type T) "__getitem__" = pure (some (.builtin id))) (hg : wpAny C.M A (getItem o i) Q E s) : wpAny C.M A (subscriptTail value slice o i) Q E s := by
  obtain ⟨ops, h⟩ := subscripted_op slice o i
  exact tail_any hT hl hg h

end Mine
end
section
open PySem PySem.W PyProof.Rows
namespace Mine
variable {C : Mod} {A : Around} {g : Frz} {s : Shared} {E : Value → Shared → Prop}

noncomputable abbrev pairIters : List String := ["enumerate", "zip", "dict_itemiterator", "dict_reverseitemiterator", "odict_iterator", "itertools.zip_longest", "itertools.pairwise"]
inductive LiveIt (h : Heap) (I : Addr) : Prop
  | mk (o : Obj) (T : String) (fs : Array Value) (_ : h.get? I = some o) (_ : o.cls = .type T) (_ : o.data = .fields fs) (_ : pairIters.contains T = false)
theorem LiveIt.keep {h h' : Heap} {I : Addr} (x : LiveIt h I) (k : ∀ o, h.get? I = some o → h'.get? I = some o) : LiveIt h' I := x.casesOn fun o T fs a b c d => ⟨o, T, fs, k o a, b, c, d⟩

inductive Itr (C : Mod) (g : Frz) (I : Addr) (ds : List D) (i : Nat) (h : Heap) : Prop
  | mk (fp : List Addr) (P : Nat → Value → Prop) (St : Nat → Heap → Prop) (_ : ∀ A : Around, A.handled = none → Walks C.prog C.w A I fp [I] ds.length P St) (_ : ∀ b ∈ fp, b = I ∨ ∃ o, g b = some o)
    (_ : ∀ j v, j < ds.length → P j v → ∃ d, ds[j]? = some d ∧ R g d v) (_ : ∀ j h, St j h → LiveIt h I) (_ : St i h)

theorem Itr.mono {g' : Frz} {I : Addr} {ds : List D} {i : Nat} {h h' : Heap} (x : Itr C g I ds i h) (hg : g.le g') (hs : ∀ a o, g a = some o → h.get? a = some o)
    (hs' : ∀ a o, g' a = some o → h'.get? a = some o) (hI : ∀ o, h.get? I = some o → h'.get? I = some o) : Itr C g' I ds i h' := by
  obtain ⟨fp, P, St, W, hf, hP, hl, hst⟩ := x
  refine ⟨fp, P, St, W, fun b hb => ?_, fun j v hj p => ?_, hl, (W { } rfl).frame i h h' hst fun b hb o e => ?_⟩
  · rcases hf b hb with q | ⟨o, q⟩
    · exact .inl q
    · exact .inr ⟨o, hg _ _ q⟩
  · obtain ⟨d, hd, hR⟩ := hP j v hj p; exact ⟨d, hd, hR.mono hg⟩
  · rcases hf b hb with rfl | ⟨o', q⟩
    · exact hI _ e
    · have := hs _ _ q
      rw [this] at e; cases e
      exact hs' _ _ (hg _ _ q)

theorem Itr.live {I : Addr} {ds : List D} {i : Nat} {h : Heap} (x : Itr C g I ds i h) : LiveIt h I := by
  obtain ⟨fp, P, St, W, hf, hP, hl, hst⟩ := x; exact hl _ _ hst

theorem Itr.next {I : Addr} {ds : List D} {i : Nat} {d : D} (x : Itr C g I ds i s.heap) (hh : A.handled = none) (hd : ds[i]? = some d) {Q : Option Value → Shared → Prop}
    (h : ∀ v h' tk, R g d v → Itr C g I ds (i + 1) h' → (∀ b o, b ≠ I → s.heap.get? b = some o → h'.get? b = some o) → Q (some v) { s with heap := h', toks := tk }) :
    wpAny C.M A (pyNext (.ref I)) Q E s := by
  refine Classical.byContradiction fun ng0 => ?_
  obtain ⟨fp, P, St, W, hf, hP, hl, hst⟩ := x
  have hi : i < ds.length := by
    rcases Nat.lt_or_ge i ds.length with q | q
    · exact q
    · rw [List.getElem?_eq_none q] at hd; cases hd
  refine ng0 ?_
  refine (W A hh).item i s Q E hi hst fun v h' tk p st k => ?_
  refine Classical.byContradiction fun ng0 => ?_
  obtain ⟨d', hd', hR⟩ := hP i v hi p
  rw [hd] at hd'; cases hd'
  refine ng0 ?_
  exact h v h' tk hR ⟨fp, P, St, W, hf, hP, hl, st⟩ fun b o hb e => k b o (by simpa using hb) e

theorem Itr.done {I : Addr} {ds : List D} (x : Itr C g I ds ds.length s.heap) (hh : A.handled = none) {Q : Option Value → Shared → Prop}
    (h : ∀ h' tk, (∀ b o, b ≠ I → s.heap.get? b = some o → h'.get? b = some o) → Q none { s with heap := h', toks := tk }) :
    wpAny C.M A (pyNext (.ref I)) Q E s := by
  refine Classical.byContradiction fun ng0 => ?_
  obtain ⟨fp, P, St, W, hf, hP, hl, hst⟩ := x
  refine ng0 ?_
  exact (W A hh).done s Q E hst fun h' tk k => h h' tk fun b o hb e => k b o (by simpa using hb) e

theorem Itr.self {I : Addr} {ds : List D} {i : Nat} (x : Itr C g I ds i s.heap) (hh : A.handled = none) {Q : Value → Shared → Prop} (h : Q (.ref I) s) : wpAny C.M A (pyIter (.ref I)) Q E s := by
  obtain ⟨fp, P, St, W, hf, hP, hl, hst⟩ := x
  exact (W A hh).self i s Q E hst h

noncomputable def Itb (d : D) (ds : List D) : Prop := ∀ (C : Mod) (A : Around) (g : Frz) (s : Shared) (v : Value) (E Q : Value → Shared → Prop), Good C g s → R g d v →
  (∀ o tk, o.isFreed = false → Itr C g s.heap.objs.size ds 0 (s.heap.push o) → Q (.ref s.heap.objs.size) { s with heap := s.heap.push o, toks := tk }) → wpAny C.M A (pyIter v) Q E s
theorem Itr.own {I : Addr} {ds : List D} {i n : Nat} {h : Heap} {P : Nat → Value → Prop} {St : Nat → Heap → Prop} (hn : ds.length = n) (W : ∀ A : Around, A.handled = none → Walks C.prog C.w A I [I] [I] n P St) (hP : ∀ j v, j < n → P j v → ∃ d, ds[j]? = some d ∧ R g d v)
    (hl : ∀ j h, St j h → LiveIt h I) (hs : St i h) : Itr C g I ds i h := by
  subst hn
  exact ⟨_, P, St, W, fun b hb => .inl (List.mem_singleton.mp hb), hP, hl, hs⟩
theorem itb_list {xs : List D} : Itb (.list xs) xs := fun C A g s v E Q G ⟨a, vs, n, e, hg, hr⟩ h => by
  subst e
  have L := R.isList G.stays hg
  have hne : a ≠ s.heap.objs.size := Nat.ne_of_lt (Heap.lt_size (G.stays _ _ hg))
  refine wpAny_pyIter_list L (h _ s.toks rfl ?_)
  refine ⟨[s.heap.objs.size, a], fun i v => vs.toArray[i]? = some v, fun i h => h.IsListIter s.heap.objs.size a i ∧ h.IsList a vs.toArray, fun A hA => ?_, fun b hb => (List.mem_cons.mp hb).imp_right fun q => ⟨_, (List.mem_singleton.mp q).symm ▸ hg⟩,
    fun j v _ hj => hr.get' ((List.getElem?_toArray ..).symm.trans hj), (fun j h st => let ⟨o, ho, hc, hd⟩ := st.1; ⟨o, _, _, ho, hc, hd, by decide⟩), ⟨⟨_, Heap.get?_push_size _ rfl, rfl, rfl⟩, L.push _⟩⟩
  have W := Walks.list (prog := C.prog) (w := C.w) hA s.heap.objs.size a hne vs.toArray
  rw [show vs.toArray.size = xs.length from hr.length] at W; exact W
theorem sign_at {x : List Nat} {j : Nat} {v : Value} : SignAt ⟨x.toArray⟩ j v → ∃ d, (x.map fun c => D.str [c])[j]? = some d ∧ R g d v := fun ⟨c, u, hc, e⟩ => by
  subst e
  exact ⟨.str [c], by rw [List.getElem?_map, ← List.getElem?_toArray, show x.toArray[j]? = some c from hc]; rfl, u, rfl⟩
theorem itb_str {x : List Nat} : Itb (.str x) (x.map fun c => .str [c]) := fun C A g s v E Q G ⟨t, e⟩ h => by
  subst e
  cases ha : x.toArray.all (· < 128)
  · exact wpAny_pyIter_wide ha (h _ s.toks rfl (Itr.own (List.length_map _) (fun A hA => Walks.strWide hA s.heap.objs.size ⟨x.toArray⟩ t) (fun j v _ => sign_at) (fun j h st => let ⟨o, ho, hc, hd⟩ := st; ⟨o, _, _, ho, hc, hd, by decide⟩) ⟨_, Heap.get?_push_size _ rfl, rfl, rfl⟩))
  · exact wpAny_pyIter_ascii ha (h _ s.toks rfl (Itr.own (List.length_map _) (fun A hA => Walks.strAscii hA s.heap.objs.size ⟨x.toArray⟩ t) (fun j v _ => sign_at) (fun j h st => let ⟨o, ho, hc, hd⟩ := st; ⟨o, _, _, ho, hc, hd, by decide⟩) ⟨_, Heap.get?_push_size _ rfl, rfl, rfl⟩))
theorem itb_bytes {x : List UInt8} : Itb (.bytes x) (x.map fun c => .int c.toNat) := fun C A g s v E Q G ⟨t, e⟩ h => by
  subst e
  refine KBw.pyIter_bytes (h _ s.toks rfl (Itr.own (List.length_map _) (fun A hA => KBw.walks hA s.heap.objs.size x.toArray t) (fun j v _ ⟨c, u, hc, e⟩ => ?_) (fun j h st => let ⟨o, ho, hc, hd⟩ := st; ⟨o, _, _, ho, hc, hd, by decide⟩) ⟨_, Heap.get?_push_size _ rfl, rfl, rfl⟩))
  subst e
  exact ⟨.int c.toNat, by rw [List.getElem?_map, ← List.getElem?_toArray, show x.toArray[j]? = some c from hc]; rfl, u, rfl⟩
theorem rng_size {a b c : Int} (hc : 0 < c ∧ 0 ≤ a ∧ a ≤ 1000000 ∧ 0 ≤ b ∧ b ≤ 1000000 ∧ c ≤ 1000000) : 0 ≤ Builtin.Range.rangeSize a b c ∧ Builtin.Range.rangeSize a b c ≤ 1000001 := by
  unfold Builtin.Range.rangeSize
  rw [if_pos hc.1]
  split
  · have h1 : 0 ≤ (b - a - 1) / c := Int.ediv_nonneg (by omega) (by omega)
    have h2 : (b - a - 1) / c ≤ b - a - 1 := Int.ediv_le_self _ (by omega)
    omega
  · decide
theorem itb_rng {a b c : Int} (hc : 0 < c ∧ 0 ≤ a ∧ a ≤ 1000000 ∧ 0 ≤ b ∧ b ≤ 1000000 ∧ c ≤ 1000000) : Itb (.rng a b c) ((List.range (Builtin.Range.rangeSize a b c).toNat).map fun (k : Nat) => .int (a + (k : Int) * c)) := fun C A g s v E Q G ⟨r, t, u, w, e, hg⟩ h => by
  subst e
  have hz := rng_size hc
  have hsm : Builtin.Range.small a b c = true := by
    unfold Builtin.Range.small Builtin.Range.rangeFitsLong
    simp only [gt_iff_lt, hc.1, if_true, Bool.and_eq_true, decide_eq_true_eq, Bool.or_eq_true, beq_iff_eq]
    omega +splitDisjunctions
  refine wpAny_pyIter_range (G.stays _ _ hg) hsm (h _ s.toks rfl (Itr.own ((List.length_map _).trans List.length_range) (fun A' hA => Walks.range hA _ a c _) (fun j v hj ⟨t, e⟩ => ?_) (fun j h st => ⟨_, _, _, st, rfl, rfl, by decide⟩) ?_))
  · exact ⟨.int (a + j * c), by rw [List.getElem?_map, List.getElem?_range hj]; rfl, t, e⟩
  · show IsRangeIter _ _ (a + ((0 : Nat) : Int) * c) ((((Builtin.Range.rangeSize a b c).toNat : Nat) : Int) - ((0 : Nat) : Int)) c
    rw [show a + ((0 : Nat) : Int) * c = a by omega, show (((Builtin.Range.rangeSize a b c).toNat : Nat) : Int) - ((0 : Nat) : Int) = Builtin.Range.rangeSize a b c by omega]
    exact Heap.get?_push_size _ rfl

end Mine
end
section
open PySem PySem.W PyProof.Rows
namespace Mine
variable {C : Mod} {A : Around} {g : Frz} {s : Shared} {E : Value → Shared → Prop} {env : Env} {m : Str → Option Value}

structure Frame (C : Mod) (h : Heap) (env : Env) (m : Str → Option Value) : Prop where
  fn : env.scope.kind = .function
  glob : env.globals = mainGlobals
  blt : env.builtins = builtinsNs
  ns : ∃ ml, h.Ns env.locals ml ∧ ∀ x, env.kindOf x = some .local → ml x = m x
  cell : ∀ x, env.kindOf x = some .cell ∨ env.kindOf x = some .free → ∃ c, env.cells.lookup x = some c ∧ h.IsCell c (m x) ∧ c ∉ C.tabs
  locT : env.locals ∉ C.tabs
  apart : ∀ x y c, env.cells.lookup x = some c → env.cells.lookup y = some c → x = y
  code : ∀ v, C.codeOf env.scope.names = some v → env.code = v.1 ∧ env.qual = v.2

theorem Frame.keep {h h' : Heap} (F : Frame C h env m) (hk : ∀ b o, b ∉ C.tabs → h.get? b = some o → h'.get? b = some o) : Frame C h' env m := by
  refine ⟨F.fn, F.glob, F.blt, ?_, fun x hx => ?_, F.locT, F.apart, F.code⟩
  · refine Classical.byContradiction fun ng0 => ?_
    obtain ⟨ml, ⟨o, es, ep, ho, r⟩, e⟩ := F.ns
    refine ng0 ?_
    exact ⟨ml, ⟨o, es, ep, hk _ _ F.locT ho, r⟩, e⟩
  · refine Classical.byContradiction fun ng0 => ?_
    obtain ⟨c, e, ⟨o, ho, hd⟩, n⟩ := F.cell x hx
    refine ng0 ?_
    exact ⟨c, e, ⟨o, hk _ _ n ho, hd⟩, n⟩
theorem Frame.step {g g' : Frz} {s s' : Shared} (F : Frame C s.heap env m) (h : Step C g s g' s') : Frame C s'.heap env m := F.keep h.keep

theorem Good.ns {a : Addr} {mm : Str → Option Value} (G : Good C g s) (h : NsIn g a mm) : s.heap.Ns a mm :=
  let ⟨o, es, ep, ho, hd, hk, hm⟩ := h; ⟨o, es, ep, G.stays _ _ ho, hd, hk, hm⟩
theorem Good.nolimit (G : Good C g s) : s.heap.NoLimit := let ⟨mc, h, e⟩ := C.nolim G.base; ⟨mc, G.ns h, e⟩

theorem isVar_cases {o : Option NameKind} (h : isVar o = true) : o = some .local ∨ o = some .cell ∨ o = some .free := by
  cases o with
  | none => cases h
  | some k => cases k <;> simp [isVar] at h ⊢

theorem load_var (F : Frame C s.heap env m) {x : Str} {v : Value} (hk : isVar (env.kindOf x) = true) (hx : (x == ("__classdict__" : Str)) = false) (hv : m x = some v)
    {Q : Value → Shared → Prop} (h : Q v s) : wpAny C.M A (loadName env x) Q E s := by
  rcases isVar_cases hk with q | q | q
  · refine Classical.byContradiction fun ng0 => ?_
    obtain ⟨ml, hn, e⟩ := F.ns
    refine ng0 ?_
    exact wpAny_loadName_local F.fn q hn ((e x q).trans hv) h
  · refine Classical.byContradiction fun ng0 => ?_
    obtain ⟨c, e, hc, _⟩ := F.cell x (.inl q)
    rw [hv] at hc
    refine ng0 ?_
    exact wpAny_loadName_cell F.fn q e hc h
  · refine Classical.byContradiction fun ng0 => ?_
    obtain ⟨c, e, hc, _⟩ := F.cell x (.inr q)
    rw [hv] at hc
    refine ng0 ?_
    exact wpAny_loadName_free F.fn q e hc h hx

theorem load_glob (F : Frame C s.heap env m) (G : Good C g s) {x : Str} {v : Value} {pos : Pos} (hk : env.kindOf x = some .globalImplicit) (hx : (x == ("__debug__" : Str)) = false) (hv : C.mg x = some v)
    {Q : Value → Shared → Prop} (h : Q v s) : wpAny C.M A (eval (.Name x pos) env) Q E s :=
  Calls.Name_function_global F.fn hk (Calls.loadGlobal_global (by rw [F.glob]; exact G.ns (C.glob G.base)) hv h) hx
theorem load_bltn (F : Frame C s.heap env m) (G : Good C g s) {x : Str} {v : Value} {pos : Pos} (hk : env.kindOf x = some .globalImplicit) (hx : (x == ("__debug__" : Str)) = false) (hm : C.mg x = none) (hv : C.mb x = some v)
    {Q : Value → Shared → Prop} (h : Q v s) : wpAny C.M A (eval (.Name x pos) env) Q E s :=
  Calls.Name_function_global F.fn hk (Calls.loadGlobal_builtin (by rw [F.glob]; exact G.ns (C.glob G.base)) hm (by rw [F.blt]; exact G.ns (C.bltn G.base)) hv h) hx

theorem attributeBase_plain {o : Expr} {name : Str} {env : Env} {w : Sem Value} (h : isCall0 o = false) : attributeBase o name env w = w := by
  unfold attributeBase
  cases o <;> first | rfl | skip
  rename_i f as ks _
  cases f <;> first | rfl | skip
  cases as <;> first | rfl | skip
  cases ks <;> first | rfl | cases h

theorem starEach_plain {e : Expr} {r : List Expr} (h : isStar e = false) : starEach (e :: r) env = (false, eval e env) :: starEach r env := by
  cases e <;> first | rfl | cases h

end Mine
end
section
open PySem PySem.W PyProof.Rows
namespace Mine
variable {C : Mod} {A : Around} {g : Frz} {s : Shared} {E : Value → Shared → Prop} {env : Env} {m : Str → Option Value}

structure Extra (C : Mod) : Prop where
  bytesBuf : ∀ {A : Around} {g : Frz} {s : Shared} {b : List UInt8} {v : Value}, b.length ≤ lim → A.handled = none → Good C g s → R g (.buf b) v → Gives C A g s (call (.type "bytes") [v]) (.bytes b)

theorem RL.one {d : D} {vs : List Value} (h : RL g [d] vs) : ∃ v, vs = [v] ∧ R g d v := by
  unfold RL at h; obtain ⟨v, r, rfl, hv, hr⟩ := h; unfold RL at hr; subst hr; exact ⟨v, rfl, hv⟩
theorem RL.two {d e : D} {vs : List Value} (h : RL g [d, e] vs) : ∃ v w, vs = [v, w] ∧ R g d v ∧ R g e w := by
  unfold RL at h; obtain ⟨v, r, rfl, hv, hr⟩ := h; obtain ⟨w, rfl, hw⟩ := RL.one hr; exact ⟨v, w, rfl, hv, hw⟩
theorem RL.three {d e f : D} {vs : List Value} (h : RL g [d, e, f] vs) : ∃ v w x, vs = [v, w, x] ∧ R g d v ∧ R g e w ∧ R g f x := by
  unfold RL at h; obtain ⟨v, r, rfl, hv, hr⟩ := h; obtain ⟨w, x, rfl, hw, hx⟩ := RL.two hr; exact ⟨v, w, x, rfl, hv, hw, hx⟩

end Mine
end
section
open PySem PySem.W PyProof.Rows
namespace Mine
section facts
set_option maxRecDepth 100000
theorem plainAttrs_mat : PlainAttrs "re.Match" :=
  ⟨⟨"object.__getattribute__", by rw [typeLookup_type, builtinLookup_eq_fast]; kernel_rfl, by decide +kernel⟩, by rw [typeLookup_type, builtinLookup_eq_fast]; kernel_rfl⟩
theorem slot_mat_span : Slot "re.Match" "span" "re.Match.span" :=
  .of (owner := "re.Match") (n := "span") (by rw [typeLookup_type, builtinLookup_eq_fast]; kernel_rfl) (by decide +kernel) (by decide +kernel) (by decide +kernel)
    (by first | exact .inl (by decide +kernel) | exact .inr (by decide +kernel)) (by rw [isSubtype_type]; kernel_rfl)
theorem type_mat_span : typeOf (.builtin "re.Match.span") = pure (.type "method_descriptor") := by show builtinType _ = _; rw [builtinType_eq_fast]; kernel_rfl
theorem entry_mat_span : entryFor table "re.Match.span" = some Builtin.«re.Match.span» := entryFor_of_tree (by kernel_rfl)
theorem args_mat_span (a b : Value) : argsOk "re.Match.span" ⟨[a, b], []⟩ := by unfold argsOk; kernel_rfl
theorem slot_mat_group : Slot "re.Match" "group" "re.Match.group" :=
  .of (owner := "re.Match") (n := "group") (by rw [typeLookup_type, builtinLookup_eq_fast]; kernel_rfl) (by decide +kernel) (by decide +kernel) (by decide +kernel)
    (by first | exact .inl (by decide +kernel) | exact .inr (by decide +kernel)) (by rw [isSubtype_type]; kernel_rfl)
theorem type_mat_group : typeOf (.builtin "re.Match.group") = pure (.type "method_descriptor") := by show builtinType _ = _; rw [builtinType_eq_fast]; kernel_rfl
theorem entry_mat_group : entryFor table "re.Match.group" = some Builtin.«re.Match.group» := entryFor_of_tree (by kernel_rfl)
theorem args_mat_group (a b : Value) : argsOk "re.Match.group" ⟨[a, b], []⟩ := by unfold argsOk; kernel_rfl
end facts
end Mine
end
section
open PySem PySem.W PyProof.Rows
namespace Mine
variable {C : Mod} {A : Around} {g : Frz} {s : Shared} {E : Value → Shared → Prop} {env : Env} {m : Str → Option Value}
open Builtin.Re

theorem strs_values : ∀ {l : List (List Nat)} {vs : List Value}, RL g (l.map .str) vs → ∃ ts : List (Str × Tok), strValues ts = vs ∧ ts.map (·.1) = l.map fun x => (⟨x.toArray⟩ : Str)
  | [], _, r => ⟨[], (show _ = _ from r).symm, rfl⟩
  | x :: l, _, ⟨v, vr, e, ⟨t, q⟩, hr⟩ => by
    obtain ⟨ts, h1, h2⟩ := strs_values hr
    subst e q h1
    exact ⟨(⟨x.toArray⟩, t) :: ts, rfl, congrArg _ h2⟩

theorem glued_joined (sep : List Nat) : ∀ (l : List (List Nat)), Txt.join ⟨sep.toArray⟩ (l.map fun x => (⟨x.toArray⟩ : Str)) = ⟨(joined sep l).toArray⟩ := by
  have key : ∀ (l : List (List Nat)) (x : List Nat), (l.map fun x => (⟨x.toArray⟩ : Str)).foldl (fun acc p => acc ++ (⟨sep.toArray⟩ : Str).cps ++ p.cps) x.toArray = (joined sep (x :: l)).toArray := by
    intro l
    induction l with
    | nil => intro x; rfl
    | cons y r ih =>
      intro x
      rw [List.map_cons, List.foldl_cons]
      have : (x.toArray ++ (⟨sep.toArray⟩ : Str).cps ++ (⟨y.toArray⟩ : Str).cps) = (x ++ sep ++ y).toArray := by simp
      rw [this, ih]
      congr 1
      cases r with
      | nil => simp [joined]
      | cons z r => simp [joined, List.append_assoc]
  intro l
  unfold Txt.join Builtin.Str.glued
  cases l with
  | nil => rfl
  | cons x r => simp only [List.map_cons, List.drop_succ_cons, List.drop_zero, List.headD_cons]; rw [key]

theorem joinFit (sep : List Nat) (l : List (List Nat)) (h : (l.map (·.length)).sum + l.length * sep.length ≤ lim) : JoinOk ⟨sep.toArray⟩ (l.map fun x => (⟨x.toArray⟩ : Str)) = true := by
  unfold JoinOk Builtin.Str.tooLong
  have key : ∀ (l : List (List Nat)) (a : Nat), (l.map fun x => (⟨x.toArray⟩ : Str)).foldl (fun b c => b + c.length + (⟨sep.toArray⟩ : Str).length) a = a + (l.map (·.length)).sum + l.length * sep.length := by
    intro l
    induction l with
    | nil => intro a; simp
    | cons x r ih =>
      intro a
      rw [List.map_cons, List.foldl_cons, ih, strLen, strLen]
      simp only [List.map_cons, List.sum_cons, List.length_cons, Nat.succ_mul]; omega
  rw [List.foldl_toArray, key, sizeLine_is]
  simp only [lim] at h
  simp; omega

theorem takeWhile_len {α : Type} (p : α → Bool) (l : List α) : l.drop (l.takeWhile p).length = l.dropWhile p := by
  induction l with
  | nil => rfl
  | cons a r ih => by_cases h : p a <;> simp [List.takeWhile_cons, List.dropWhile_cons, h, ih]

theorem lstrip_eq (x : List Nat) : Txt.lstrip ⟨x.toArray⟩ = ⟨(x.dropWhile Unicode.isSpace).toArray⟩ := by
  unfold Txt.lstrip Txt.stripBy
  have e1 : PySem.stripped Unicode.isSpace true false ⟨x.toArray⟩ = ⟨(x.dropWhile Unicode.isSpace).toArray⟩ := by
    unfold PySem.stripped PySem.stripLo PySem.stripHi Builtin.Str.strSub
    simp only [if_true, Bool.false_eq_true, if_false, strLen]
    rw [← takeWhile_len]
    simp
    exact List.take_of_length_le (by simp)
  split
  · rename_i h
    unfold PySem.stripSame at h
    simp only [Bool.and_eq_true, beq_iff_eq] at h
    have : (x.takeWhile Unicode.isSpace).length = 0 := by have := h.1; unfold PySem.stripLo at this; simpa using this
    rw [← takeWhile_len, this]; rfl
  · exact e1

theorem rstrip_eq (x : List Nat) : Txt.rstrip ⟨x.toArray⟩ = ⟨((x.reverse.dropWhile Unicode.isSpace).reverse).toArray⟩ := by
  unfold Txt.rstrip Txt.stripBy
  have key : (x.reverse.dropWhile Unicode.isSpace).reverse = x.take (x.length - (x.reverse.takeWhile Unicode.isSpace).length) := by
    rw [← takeWhile_len, List.reverse_drop]; simp
  split
  · rename_i h
    unfold PySem.stripSame PySem.stripLo PySem.stripHi at h
    simp only [Bool.false_eq_true, if_false, if_true, strLen, Bool.and_eq_true, beq_iff_eq] at h
    have h2 : x.length - (x.reverse.takeWhile Unicode.isSpace).length = x.length := by have := h.2; simpa using this
    rw [key, h2, List.take_length]
  · unfold PySem.stripped PySem.stripLo PySem.stripHi Builtin.Str.strSub
    simp only [if_true, Bool.false_eq_true, if_false, strLen]
    rw [key]
    simp

theorem startswith_eq (x : List Nat) (c : Nat) : Txt.startswith ⟨x.toArray⟩ ⟨[c].toArray⟩ = (x.head? == some c) := by
  unfold Txt.startswith Builtin.Str.subAt
  rw [strLen, strLen]
  cases x with
  | nil => rfl
  | cons a r =>
    have : (Array.extract (a :: r).toArray 0 (0 + [c].length)) = #[a] := by simp
    show (decide (0 + [c].length ≤ (a :: r).length) && ((a :: r).toArray.extract 0 (0 + [c].length) == [c].toArray)) = _
    rw [this]
    simp [List.head?]

inductive Meth (C : Mod) (A : Around) (g : Frz) (s : Shared) (ov : Value) (name : Str) (l : List D) (r : D) : Prop
  | mk (T id : String) (_ : PlainAttrs T) (_ : Slot T name id) (_ : typeOf (.builtin id) = pure (.type "method_descriptor")) (_ : s.TypeIs ov T)
    (_ : ∀ a, ov = .ref a → ∃ ob, s.heap.get? a = some ob ∧ ob.dict = none)
    (_ : ∀ g' s' vs, Step C g s g' s' → RL g' l vs → Gives C A g' s' (call (.builtin id) (ov :: vs)) r)

theorem getD_raw (sp : List Int) (i : Nat) (d : Int) : (((sp.map rawInt).toArray).map reRawOf).getD i d = sp.getD i d := by
  have : ((sp.map rawInt).toArray).map reRawOf = sp.toArray := by
    simp only [List.map_toArray, List.map_map]
    congr 1
    conv => rhs; rw [← List.map_id sp]
    rfl
  rw [this]; simp [Array.getD, List.getD]
  split <;> simp_all

theorem found_sound {x : List Nat} {sp : List Int} {v : Value} (G : Good C g s) (h : R g (.mat x sp) v) {Q : ReFound → Shared → Prop}
    (k : ∀ t p pos lm li sa, Q { fields := #[.str ⟨x.toArray⟩ t, p, pos, lm, li, .ref sa], spans := ((sp.map rawInt).toArray).map reRawOf } s) : wpAny C.M A (reFound v) Q E s := by
  unfold R at h; obtain ⟨a, t, p, pos, lm, li, sa, sn, svs, rfl, hg, hs, rfl⟩ := h
  unfold reFound
  refine wpAny_bind (wpAny_fieldsOf (G.stays _ _ hg) rfl (wpAny_bind ?_))
  unfold reRawItems
  refine wpAny_bind ?_
  show wpAny _ _ (seqItems? (.ref sa)) _ _ s
  refine wpAny_seqItems (G.stays _ _ hs) rfl (wpAny_pure (wpAny_pure ?_))
  exact k t p pos lm li sa

theorem groupNumber_int (X : ReFound) (i : Int) (u : Tok) (h0 : 0 ≤ i) (h1 : 2 * i < X.spans.size) : reGroupNumber X (.int i u) = pure i.toNat := by
  have e : reGroupNumber X (.int i u) = (if (decide (i < 0) || decide (2 * i ≥ X.spans.size)) = true then (do rule "re.Match.no-such-group"; raiseError "IndexError" "no such group"; pure i.toNat) else pure i.toNat) := by
    first | rfl | (unfold reGroupNumber; rfl)
  rw [e, if_neg]
  simp only [Bool.or_eq_true, decide_eq_true_eq]; omega

theorem spans_size (sp : List Int) : (((sp.map rawInt).toArray).map reRawOf).size = sp.length := by simp

end Mine
end
section
open PySem PySem.W PyProof.Rows
namespace Mine
variable {C : Mod} {A : Around} {g : Frz} {s : Shared} {E : Value → Shared → Prop} {env : Env} {m : Str → Option Value}

structure StepB (C : Mod) (X : Addr → Prop) (g : Frz) (s : Shared) (g' : Frz) (s' : Shared) : Prop where
  same : ∃ h tk, s' = { s with heap := h, toks := tk }
  grow : g.le g'
  fresh : ∀ a o, ¬ X a → s.heap.get? a = some o → g' a = g a
  keep : ∀ a o, a ∉ C.tabs → ¬ X a → s.heap.get? a = some o → s'.heap.get? a = some o
  good : Good C g' s'

theorem Step.toB {g' : Frz} {s' : Shared} (h : Step C g s g' s') (X : Addr → Prop) : StepB C X g s g' s' :=
  ⟨h.same, h.grow, fun a o _ e => h.fresh a o e, fun a o n _ e => h.keep a o n e, h.good⟩
theorem StepB.refl (G : Good C g s) (X : Addr → Prop) : StepB C X g s g s := (Step.refl G).toB X
theorem StepB.trans {X : Addr → Prop} {g' g'' : Frz} {s' s'' : Shared} (x : StepB C X g s g' s') (y : StepB C X g' s' g'' s'') : StepB C X g s g'' s'' := by
  refine ⟨?_, Frz.le_trans x.grow y.grow, fun a o n h => ?_, fun a o n q e => y.keep a o n q (x.keep a o n q e), y.good⟩
  · obtain ⟨h, t, rfl⟩ := x.same
    obtain ⟨h', t', rfl⟩ := y.same
    exact ⟨h', t', rfl⟩
  · by_cases q : a ∈ C.tabs
    · rw [y.good.apart a q, ← x.fresh a o n h, x.good.apart a q]
    · exact (y.fresh a o n (x.keep a o q n h)).trans (x.fresh a o n h)
theorem StepB.mono {X Y : Addr → Prop} {g' : Frz} {s' : Shared} (x : StepB C X g s g' s') (h : ∀ a, X a → Y a) : StepB C Y g s g' s' :=
  ⟨x.same, x.grow, fun a o n e => x.fresh a o (fun z => n (h a z)) e, fun a o n q e => x.keep a o n (fun z => q (h a z)) e, x.good⟩
theorem StepB.toStep {X : Addr → Prop} {g' : Frz} {s' : Shared} (x : StepB C X g s g' s') (h : ∀ a, X a → s.heap.get? a = none) : Step C g s g' s' :=
  ⟨x.same, x.grow, fun a o e => x.fresh a o (fun z => by rw [h a z] at e; cases e) e, fun a o n e => x.keep a o n (fun z => by rw [h a z] at e; cases e) e, x.good⟩

theorem StepB.upd {X : Addr → Prop} {h : Heap} {tk : Nat} (G : Good C g s) (hX : ∀ a, X a → g a = none ∧ a ∉ C.tabs) (hk : ∀ a o, ¬ X a → s.heap.get? a = some o → h.get? a = some o) :
    StepB C X g s g { s with heap := h, toks := tk } :=
  ⟨⟨h, tk, rfl⟩, g.le_refl, fun _ _ _ _ => rfl, fun a o _ n e => hk a o n e,
    ⟨fun a o e => hk a o (fun z => by rw [(hX a z).1] at e; cases e) (G.stays a o e), G.base, C.tabKeep g.le_refl (fun a ha => by
      obtain ⟨o, ho⟩ := C.tabIn G.tab a ha
      rw [hk a o (fun z => (hX a z).2 ha) ho, ho]) G.tab, G.apart⟩⟩

noncomputable def upd (m : Str → Option Value) (x : Str) (v : Value) : Str → Option Value := fun y => if y = x then some v else m y

theorem Frame.cell_ne {h : Heap} (F : Frame C h env m) {x : Str} {c : Addr} (hx : env.kindOf x = some .cell ∨ env.kindOf x = some .free) (hc : env.cells.lookup x = some c) : c ≠ env.locals := by
  refine Classical.byContradiction fun ng0 => ?_
  obtain ⟨c', e, ⟨o, ho, hd⟩, _⟩ := F.cell x hx
  rw [hc] at e; cases e
  obtain ⟨ml, ⟨o', es, ep, ho', hd', _⟩, _⟩ := F.ns
  refine ng0 ?_
  intro q; subst q
  rw [ho] at ho'; cases ho'
  rw [hd] at hd'; cases hd'

noncomputable def place (env : Env) (x : Str) : Addr := if env.kindOf x = some .local then env.locals else (env.cells.lookup x).getD 0

theorem Frame.store {x : Str} {v : Value} (F : Frame C s.heap env m) (hx : env.kindOf x = some .local ∨ env.kindOf x = some .cell) {Q : Unit → Shared → Prop}
    (h : ∀ h' tk, Frame C h' env (upd m x v) → (∀ a o, a ≠ place env x → s.heap.get? a = some o → h'.get? a = some o) → (∀ a o, s.heap.get? a = some o → ∃ o', h'.get? a = some o') →
      Q () { s with heap := h', toks := tk }) : wpAny C.M A (storeName env x v) Q E s := by
  rcases hx with hx | hx
  · obtain ⟨ml, hn, e⟩ := F.ns
    have pl : place env x = env.locals := by unfold place; rw [if_pos hx]
    refine wpAny_storeName_local hx hn (fun h' hn' hs => ?_) (by rw [F.fn]; rfl)
    refine h h' _ ⟨F.fn, F.glob, F.blt, ⟨_, hn', fun y hy => ?_⟩, fun y hy => ?_, F.locT, F.apart, F.code⟩ (fun a o q e => ?_) (fun a o e => ?_)
    · unfold upd; split
      · rfl
      · exact e y hy
    · obtain ⟨c, e1, e2, e3⟩ := F.cell y hy
      have ne : y ≠ x := fun q => by subst q; rcases hy with q | q <;> rw [hx] at q <;> cases q
      refine ⟨c, e1, ?_, e3⟩
      unfold upd; rw [if_neg ne]
      exact e2.sameBut hs (F.cell_ne hy e1)
    · rw [pl] at q; exact hs.extBut a o q e
    · by_cases q : a = env.locals
      · subst q
        obtain ⟨o', es, ep, ho', _⟩ := hn'
        exact ⟨o', ho'⟩
      · exact ⟨o, hs.extBut a o q e⟩
  · obtain ⟨c, e1, e2, e3⟩ := F.cell x (.inl hx)
    have pl : place env x = c := by unfold place; rw [if_neg (by rw [hx]; decide), e1]; rfl
    have ne := F.cell_ne (.inl hx) e1
    refine wpAny_storeName_cell F.fn hx e1 e2 (v := v) fun h' hc hs => ?_
    refine h h' s.toks ⟨F.fn, F.glob, F.blt, ?_, fun y hy => ?_, F.locT, F.apart, F.code⟩ (fun a o q e => ?_) (fun a o e => ?_)
    · obtain ⟨ml, hn, e⟩ := F.ns
      refine ⟨ml, hn.sameBut hs (Ne.symm ne), fun y hy => ?_⟩
      have ny : y ≠ x := fun q => by subst q; rw [hx] at hy; cases hy
      unfold upd; rw [if_neg ny]; exact e y hy
    · by_cases q : y = x
      · subst q
        refine ⟨c, e1, ?_, e3⟩
        unfold upd; rw [if_pos rfl]; exact hc
      · obtain ⟨c', e1', e2', e3'⟩ := F.cell y hy
        refine ⟨c', e1', ?_, e3'⟩
        unfold upd; rw [if_neg q]
        exact e2'.sameBut hs fun z => q (F.apart y x c (z ▸ e1') e1)
    · rw [pl] at q; exact hs.extBut a o q e
    · by_cases q : a = c
      · subst q
        obtain ⟨o', ho', _⟩ := hc
        exact ⟨o', ho'⟩
      · exact ⟨o, hs.extBut a o q e⟩

theorem letOwned_sound {I : Addr} {t : Expr} {v : Value} (h : LiveIt s.heap I) {Q : Unit → Shared → Prop} (k : Q () s) : wpAny C.M A (letOwnedTupleGo t (.ref I) v) Q E s := by
  obtain ⟨o, T, fs, ho, hc, hd, hn⟩ := h
  have key : ∀ (a : Addr), wpAny C.M A (load I >>= fun o => match o.cls, o.data with
      | .type n, .fields vs => if (["enumerate", "zip", "dict_itemiterator", "dict_reverseitemiterator", "odict_iterator", "itertools.zip_longest", "itertools.pairwise"].contains n && vs[0]? == some (rawInt a)) = true then (do rule "for.unpacks-the-owned-tuple"; updateField I 0 .none) else pure ()
      | _, _ => pure ()) Q E s := fun a => by
    refine wpAny_bind (wpAny_load ho ?_)
    rw [hc, hd]
    simp only
    have hn' : (["enumerate", "zip", "dict_itemiterator", "dict_reverseitemiterator", "odict_iterator", "itertools.zip_longest", "itertools.pairwise"].contains T) = false := hn
    rw [hn']
    exact wpAny_pure k
  unfold letOwnedTupleGo
  split
  · cases v with
    | ref a => exact key a
    | _ => exact wpAny_pure k
  · cases v with
    | ref a => exact key a
    | _ => exact wpAny_pure k
  · exact wpAny_pure k

end Mine
end
section
open PySem PySem.W PyProof.Rows
namespace Mine
open Sem (wp)
variable {C : Mod} {A : Around} {s : Shared} {E : Value → Shared → Prop} {env : Env}
section
variable {α β : Type}

theorem wpC_pure {a : α} {Q : α → Shared → Prop} (h : Q a s) : wpC C A (pure a) Q E s := wpC_of (wpAny_pure h)
theorem wpC_of_eq {t : Sem α} {a : α} {Q : α → Shared → Prop} (h : t = pure a) (hQ : Q a s) : wpC C A t Q E s := wpC_of (wpAny_of_eq h hQ)
theorem wpC_standAt {pos : Pos} {Q : Unit → Shared → Prop} (h : Q () s) : wpC C A (standAt pos) Q E s := wpC_of (wpAny_standAt h)
theorem wpC_rule {tag : String} {Q : Unit → Shared → Prop} (h : Q () s) : wpC C A (rule tag) Q E s := wpC_of (wpAny_rule h)
theorem wpC_point {Q : Unit → Shared → Prop} (h : Q () s) : wpC C A point Q E s := wpC_of (wpAny_point h)

theorem wpC_mono {t : Sem α} {Q Q' : α → Shared → Prop} {E' : Value → Shared → Prop} (h : wpC C A t Q E s)
    (hQ : ∀ a s, Q a s → Q' a s) (hE : ∀ e s, E e s → E' e s) : wpC C A t Q' E' s :=
  fun Γ p i j => Sem.wp_mono C.M Γ t (fun a _ s => hQ a s) (fun e _ s => hE e s) p s (h Γ p i j)

theorem codeC_mono {c : Code} {R R' : Result → Shared → Prop} (h : codeC C A c R s) (hR : ∀ r s, R r s → R' r s) : codeC C A c R' s := fun Γ p i j k => by
  refine Classical.byContradiction fun ng0 => ?_
  obtain ⟨r, s', h1, h2⟩ := h Γ p i j k
  refine ng0 ?_
  exact ⟨r, s', h1, hR _ _ h2⟩

theorem wpC_bind {t : Sem α} {f : α → Sem β} {Q : β → Shared → Prop} (h : wpC C A t (fun a s' => wpC C A (f a) Q E s') E s) : wpC C A (t >>= f) Q E s := fun Γ p i j => by
  rw [Sem.wp_bind']
  exact Sem.wp_mono C.M Γ t (fun a p' s' h' => h' Γ p' i j) (fun _ _ _ h' => h') p s (h Γ p i j)

theorem wpC_onRaise {t : Sem α} {k : Value → Sem Unit} {Q : α → Shared → Prop} (h : wpC C A t Q (fun e s' => wpC C A (k e) (fun _ s'' => E e s'') E s') s) : wpC C A (t.onRaise k) Q E s := fun Γ p i j => by
  rw [Sem.wp_onRaise]
  exact Sem.wp_mono C.M Γ t (fun _ _ _ h' => h') (fun e p' s' h' => h' Γ p' i j) p s (h Γ p i j)

theorem wpC_attempt {t : Sem α} {Q : Except Value α → Shared → Prop} (h : wpC C A t (fun a => Q (.ok a)) (fun e => Q (.error e)) s) : wpC C A t.attempt Q E s := fun Γ p i j => by
  rw [Sem.wp_attempt]; exact h Γ p i j

theorem wpC_holding {vs : List Value} {t : Sem α} {Q : α → Shared → Prop} (h : wpC C A t Q E s) : wpC C A (holding vs t) Q E s := fun Γ p i j => by
  rw [Sem.wp_holding]; exact h Γ p i j

theorem wpC_keep {vs : List Value} {t : Sem α} {Q : α → Shared → Prop} (h : wpC C A t Q E s) : wpC C A (t.keep vs) Q E s := fun Γ p i j => by
  rw [Sem.wp_keep]; exact h Γ p i j

theorem wpC_run {c : Code} {h : Option Value} {Q : Flow → Shared → Prop} (hc : codeC C (A.mark h) c (fun r s' => match r with | .ok f => Q f s' | .error e => E e s') s)
    (hn : calm c = true := by rfl) (hnb : h ≠ some byPass := by intro x; cases x) : wpC C A (run c h) Q E s := fun Γ p i j => by
  rw [Sem.wp_run]; exact hc _ p rfl (i.enter c h p hnb) (C.okIn Γ c h p j hn)

theorem wpC_runValue {c : Code} {Q : Value → Shared → Prop} (hc : codeC C A c (fun r s' => match r with | .ok (.ret v) => Q v s' | .ok _ => False | .error e => E e s') s)
    (hn : calm c = true := by rfl) : wpC C A (runValue c) Q E s := fun Γ p i j => by
  rw [Sem.wp_runValue]; exact hc _ p rfl (i.enter c none p (by intro x; cases x)) (C.okIn Γ c none p j hn)

theorem wpC_call {f : Value} {pos : List Value} {kw : List (Str × Value)} {Q : Value → Shared → Prop}
    (hc : codeC C A (.call f ⟨pos, kw⟩) (fun r s' => match r with | .ok (.ret v) => Q v s' | .ok _ => False | .error e => E e s') s) : wpC C A (call f pos kw) Q E s := wpC_runValue hc

theorem codeC_of_tree {c : Code} {R : Result → Shared → Prop}
    (h : wpC C (A.under c) (C.M.den c) (fun fin s' => match fin with | .done f => R (.ok f) s' | .again c' => c'.quiet = true ∧ calm c' = true ∧ codeC C A c' R s') (fun e s' => R (.error e) s') s) : codeC C A c R s := fun Γ p hc i j => by
  rw [wpCode_iff_wp, hc]
  refine Sem.wp_mono C.M Γ _ (fun fin p' s' h' => ?_) (fun _ _ _ h' => h') p s (h Γ p (hc ▸ i.in) j)
  cases fin with
  | done f => exact h'
  | again c' => exact ⟨h'.1, h'.2.2 (Γ.goto c') p' rfl (i.goto c') (C.okGo Γ c' j h'.2.1)⟩

theorem wpC_noted {t : Sem α} {Q : α → Shared → Prop} (h : wpC C A t Q (notedBy C.M A env E) s) : wpC C A (t.onRaise fun x => do noteFrame x env; theTreesLotGoes x) Q E s :=
  wpC_onRaise (wpC_mono h (fun _ _ q => q) fun _ _ hx => wpC_of (wpAny_bind (wpAny_mono hx (fun _ _ e => wpAny_theTreesLotGoes e) fun _ _ e => e)))
theorem wpC_notedAt {t : Sem α} {pos : Pos} {Q : α → Shared → Prop} (h : wpC C A t Q (notedBy C.M A env E) s) : wpC C A (t.onRaise fun x => do noteFrame x env; standAt pos) Q E s :=
  wpC_onRaise (wpC_mono h (fun _ _ q => q) fun _ _ hx => wpC_of (wpAny_bind (wpAny_mono hx (fun _ _ e => wpAny_standAt e) fun _ _ e => e)))
end

theorem wpC_standIf {α : Type} {c : Prop} [Decidable c] {pos : Pos} {k : PUnit → Sem α} {Q : α → Shared → Prop} (h : wpC C A (k ()) Q E s) : wpC C A (if c then (standAt pos >>= k) else k ()) Q E s := by
  split
  · exact wpC_bind (wpC_standAt h)
  · exact h

/-! expressions -/
theorem wpC_items_nil {pos : Pos} {Q : List Value → Shared → Prop} (h : Q [] s) : wpC C A (spliced (backTo pos (starEach [] env))) Q E s := wpC_of (wpAny_items_nil h)
theorem spliced_nilC {Q : List Value → Shared → Prop} (h : Q [] s) : wpC C A (spliced []) Q E s := wpC_of (Calls.spliced_nil h)
theorem spliced_consC {x : Sem Value} {rest : List (Bool × Sem Value)} {Q : List Value → Shared → Prop}
    (h : wpC C A x (fun v s₁ => wpC C A (spliced rest) (fun vs s₂ => Q (v :: vs) s₂) E s₁) E s) : wpC C A (spliced ((false, x) :: rest)) Q E s := by
  rw [spliced]
  refine wpC_bind (wpC_mono h (fun v s₁ h₁ => ?_) fun _ _ x => x)
  simp only [Bool.false_eq_true, if_false]
  exact wpC_bind (wpC_pure (wpC_bind (wpC_holding (wpC_mono h₁ (fun vs s₂ h₂ => wpC_pure h₂) fun _ _ x => x))))

theorem wpC_items_cons {pos : Pos} {e : Expr} {rest : List Expr} {Q : List Value → Shared → Prop}
    (h : wpC C A (eval e env) (fun v s₁ => wpC C A (spliced (backTo pos (starEach rest env))) (fun vs s₂ => Q (v :: vs) s₂) E s₁) E s)
    (he : starEach (e :: rest) env = (false, eval e env) :: starEach rest env := by rfl) : wpC C A (spliced (backTo pos (starEach (e :: rest) env))) Q E s := by
  rw [he]
  show wpC C A (do
    let v ← eval e env
    let here ← (pure [v] : Sem (List Value))
    return here ++ (← holding here (spliced (backTo pos (starEach rest env))))) Q E s
  exact wpC_bind (wpC_mono h (fun v s₁ h₁ => wpC_bind (wpC_pure (wpC_bind (wpC_holding (wpC_mono h₁ (fun vs s₂ h₂ => wpC_pure h₂) fun _ _ x => x))))) fun _ _ x => x)

theorem wpC_List {elts : List Expr} {pos : Pos} {Q : Value → Shared → Prop}
    (h : wpC C A (spliced (backTo pos (starEach elts env)))
      (fun vs s₁ => vs.length ≤ sizeLine ∧ Q (.ref s₁.heap.objs.size) { s₁ with heap := s₁.heap.push { cls := .type "list", data := .seq vs.toArray } }) E s) : wpC C A (eval (.List elts pos) env) Q E s := by
  rw [arm_eval_List]
  exact wpC_bind (wpC_standAt (wpC_bind (wpC_mono h (fun vs s₁ h₁ => wpC_of (wpAny_newList h₁.2 h₁.1)) fun _ _ x => x)))
theorem wpC_Tuple {elts : List Expr} {k : Nat} {pos : Pos} {Q : Value → Shared → Prop}
    (h : wpC C A (spliced (backTo pos (starEach elts env)))
      (fun vs s₁ => vs.length ≤ sizeLine ∧ Q (.ref s₁.heap.objs.size) { s₁ with heap := s₁.heap.push { cls := .type "tuple", data := .seq vs.toArray } }) E s) : wpC C A (eval (.Tuple elts k pos) env) Q E s := by
  rw [arm_eval_Tuple]
  exact wpC_bind (wpC_standAt (wpC_bind (wpC_mono h (fun vs s₁ h₁ => wpC_of (wpAny_newTuple h₁.2 h₁.1)) fun _ _ x => x)))

theorem wpC_UnaryOp {op : UnaryOp} {x : Expr} {pos : Pos} {Q : Value → Shared → Prop} (h : wpC C A (eval x env) (fun v s₁ => wpC C A (unaryOp op v) Q E s₁) E s) : wpC C A (eval (.UnaryOp op x pos) env) Q E s := by
  rw [arm_eval_UnaryOp]
  exact wpC_bind (wpC_mono h (fun v s₁ h₁ => wpC_bind (wpC_standAt (wpC_holding h₁))) fun _ _ x => x)

theorem wpC_IfExp {test body orelse : Expr} {pos : Pos} {Q : Value → Shared → Prop}
    (h : wpC C A (isTrue test env (eval test env)) (fun b s₁ => if b then wpC C A (eval body env) Q E s₁ else wpC C A (eval orelse env) Q E s₁) E s) : wpC C A (eval (.IfExp test body orelse pos) env) Q E s := by
  rw [arm_eval_IfExp]
  refine wpC_bind (wpC_mono h (fun b s₁ h₁ => ?_) fun _ _ x => x)
  cases b <;> exact h₁

theorem wpC_Compare1 {l op r pos} {Q : Value → Shared → Prop}
    (h : wpC C A (eval l env) (fun a s₁ => wpC C A (eval r env) (fun b s₂ => wpC C A (compareOp op a b) Q E s₂) E s₁) E s)
    (hm : behindInMarks op r = false := by with_unfolding_all rfl) : wpC C A (eval (.Compare l [op] [r] pos) env) Q E s := fun Γ p i j => by
  simp only [eval_Compare1, markedBehindIn_of_false hm, Sem.wp_bind', Sem.wp_holding, Sem.wp_cmd_standAt, Sem.wp_operate]
  exact Sem.wp_mono C.M Γ _ (fun a p₁ s₁ h₁ => Sem.wp_mono C.M Γ _ (fun b _ s₂ h₂ => h₂ Γ _ i j) (fun _ _ _ h' => h') _ _ (h₁ Γ p₁ i j)) (fun _ _ _ h' => h') _ _ (h Γ p i j)

theorem wpC_BinOp {l op r pos} {Q : Value → Shared → Prop}
    (h : wpC C A (eval l env) (fun a s₁ => wpC C A (eval r env) (fun b s₂ => wpC C A (binaryOp op a b) Q E s₂) E s₁) E s) : wpC C A (eval (.BinOp l op r pos) env) Q E s := fun Γ p i j => by
  simp only [eval_BinOp, Sem.wp_bind', Sem.wp_holding, Sem.wp_cmd_standAt, Sem.wp_operate]
  exact Sem.wp_mono C.M Γ _ (fun a p₁ s₁ h₁ => Sem.wp_mono C.M Γ _ (fun b _ s₂ h₂ => h₂ Γ _ i j) (fun _ _ _ h' => h') _ _ (h₁ Γ p₁ i j)) (fun _ _ _ h' => h') _ _ (h Γ p i j)

theorem Subscript_C {value slice pos} {Q : Value → Shared → Prop}
    (h : wpC C A (eval value env) (fun o s₁ => wpC C A (eval slice env) (fun i s₂ => wpC C A (subscriptTail value slice o i) Q E s₂) E s₁) E s) : wpC C A (eval (.Subscript value slice pos) env) Q E s := by
  rw [eval_Subscript]
  exact wpC_bind (wpC_mono h (fun o s₁ h₁ => wpC_bind (wpC_holding (wpC_mono h₁ (fun i s₂ h₂ => wpC_bind (wpC_standAt h₂)) fun _ _ x => x))) fun _ _ x => x)

theorem wpC_Slice {lower upper step : Option Expr} {p : Pos} {Q : Value → Shared → Prop}
    (h : wpC C A (evalPart lower env) (fun l s₁ => wpC C A (evalPart upper env) (fun u s₂ => wpC C A (evalPart step env) (fun st s₃ =>
      Q (.ref s₃.heap.objs.size) { s₃ with heap := s₃.heap.push { cls := .type "slice", data := .fields #[l, u, st] } }) E s₂) E s₁) E s) : wpC C A (eval (.Slice lower upper step p) env) Q E s := by
  rw [arm_eval_Slice]
  refine wpC_bind (wpC_mono h (fun l s₁ h₁ => wpC_bind (wpC_holding (wpC_mono h₁ (fun u s₂ h₂ => wpC_bind (wpC_holding (wpC_mono h₂ (fun st s₃ h₃ => ?_) fun _ _ x => x))) fun _ _ x => x))) fun _ _ x => x)
  exact wpC_of (wpAny_newObj_type h₃)

/-! tests -/
theorem wpC_isTrue_value {e : Expr} {whole : Sem Value} {Q : Bool → Shared → Prop} (h : wpC C A whole (fun v s₁ => wpC C A (truthy v) Q E s₁) E s)
    (he : isTrue e env whole = (do let v ← whole; standAt e.pos; holding [v] (truthy v)) := by rfl) : wpC C A (isTrue e env whole) Q E s := by
  rw [he]
  exact wpC_bind (wpC_mono h (fun v s₁ h₁ => wpC_bind (wpC_standAt (wpC_holding h₁))) fun _ _ x => x)
theorem wpC_isTrue_Not {x : Expr} {pos : Pos} {whole : Sem Value} {Q : Bool → Shared → Prop} (h : wpC C A (isTrue x env (eval x env)) (fun b s₁ => Q (!b) s₁) E s) : wpC C A (isTrue (.UnaryOp .Not x pos) env whole) Q E s := by
  rw [arm_isTrue_UnaryOp]
  exact wpC_bind (wpC_mono h (fun b s₁ h₁ => wpC_pure h₁) fun _ _ x => x)
theorem wpC_isTrue_Compare1 {l op r pos whole} {Q : Bool → Shared → Prop}
    (h : wpC C A (eval l env) (fun a s₁ => wpC C A (eval r env) (fun b s₂ => wpC C A (compareOp op a b) (fun c s₃ => wpC C A (truthy c) Q E s₃) E s₂) E s₁) E s)
    (hm : behindInMarks op r = false := by with_unfolding_all rfl) : wpC C A (isTrue (.Compare l [op] [r] pos) env whole) Q E s := fun Γ p i j => by
  simp only [isTrue_Compare1, markedBehindIn_of_false hm, Sem.wp_bind', Sem.wp_holding, Sem.wp_cmd_standAt, Sem.wp_operate]
  exact Sem.wp_mono C.M Γ _ (fun a p₁ s₁ h₁ => Sem.wp_mono C.M Γ _ (fun b _ s₂ h₂ => Sem.wp_mono C.M Γ _ (fun c p₃ s₃ h₃ => h₃ Γ p₃ i j)
    (fun _ _ _ h' => h') _ _ (h₂ Γ _ i j)) (fun _ _ _ h' => h') _ _ (h₁ Γ p₁ i j)) (fun _ _ _ h' => h') _ _ (h Γ p i j)
theorem wpC_isTrue_BoolOp {op : BoolOp} {values : List Expr} {pos : Pos} {whole : Sem Value} {Q : Bool → Shared → Prop} (h : wpC C A (allTrue op values env) Q E s) : wpC C A (isTrue (.BoolOp op values pos) env whole) Q E s := by
  rw [arm_isTrue_BoolOp]; exact h
theorem wpC_allTrue_Or_nil {Q : Bool → Shared → Prop} (h : Q false s) : wpC C A (allTrue .Or [] env) Q E s := wpC_of (wpAny_allTrue_Or_nil h)
theorem wpC_allTrue_And_nil {Q : Bool → Shared → Prop} (h : Q true s) : wpC C A (allTrue .And [] env) Q E s := wpC_of (wpAny_allTrue_And_nil h)
theorem wpC_allTrue_Or_cons {x : Expr} {rest : List Expr} {Q : Bool → Shared → Prop}
    (h : wpC C A (isTrue x env (eval x env)) (fun b s₁ => if b then Q true s₁ else wpC C A (allTrue .Or rest env) Q E s₁) E s) : wpC C A (allTrue .Or (x :: rest) env) Q E s := by
  show wpC C A (do match BoolOp.Or, ← isTrue x env (eval x env) with | .And, false => pure false | .Or, true => pure true | _, _ => allTrue .Or rest env) Q E s
  refine wpC_bind (wpC_mono h (fun b s₁ h₁ => ?_) fun _ _ x => x)
  cases b
  · exact h₁
  · exact wpC_pure h₁
theorem evalArgs_plainC {f : Value} {x : Sem Value} {rest : List (Bool × Sem Value)} {Q : Args → Shared → Prop}
    (h : wpC C A (spliced ((false, x) :: rest)) (fun vs s' => Q ⟨vs, []⟩ s') E s) : wpC C A (evalArgs f true ((false, x) :: rest) []) Q E s := by
  unfold evalArgs
  show wpC C A (spliced ((false, x) :: rest) >>= _) Q E s
  refine wpC_bind (wpC_mono h (fun vs s' h' => ?_) fun _ _ x => x)
  refine wpC_holding ?_
  exact wpC_bind (wpC_pure (wpC_bind (wpC_pure (wpC_pure h'))))

theorem callWith_builtinC {pos : Pos} {id : String} {first : List Value} {args : List (Bool × Sem Value)} {Q : Value → Shared → Prop} (hplain : args.any (·.1) = false)
    (h : wpC C A (evalArgs (.builtin id) true args []) (fun a s₁ => wpC C A (call (.builtin id) (first ++ a.pos) a.kw) Q E s₁) E s) : wpC C A (callWith pos (.builtin id) first args []) Q E s := by
  unfold callWith
  refine wpC_bind (wpC_holding (wpC_mono h (fun a s₁ h₁ => wpC_bind (wpC_standAt ?_)) fun _ _ x => x))
  simp only [hplain, List.any_nil, Bool.or_false]
  refine wpC_bind (wpC_pure ?_)
  exact wpC_bind (wpC_mono h₁ (fun r s₂ hr => wpC_bind (wpC_holding (wpC_point (wpC_pure hr)))) fun _ _ x => x)
theorem callWith_typeC {pos : Pos} {T : String} {first : List Value} {args : List (Bool × Sem Value)} {Q : Value → Shared → Prop} (hplain : args.any (·.1) = false)
    (h : wpC C A (evalArgs (.type T) true args []) (fun a s₁ => wpC C A (call (.type T) (first ++ a.pos) a.kw) Q E s₁) E s) : wpC C A (callWith pos (.type T) first args []) Q E s := by
  unfold callWith
  refine wpC_bind (wpC_holding (wpC_mono h (fun a s₁ h₁ => wpC_bind (wpC_standAt ?_)) fun _ _ x => x))
  simp only [hplain, List.any_nil, Bool.or_false]
  refine wpC_bind (wpC_pure ?_)
  exact wpC_bind (wpC_mono h₁ (fun r s₂ hr => wpC_bind (wpC_holding (wpC_point (wpC_pure hr)))) fun _ _ x => x)
theorem callWith_functionC {pos : Pos} {a : Addr} {o : Obj} {fd : FuncData} {first : List Value} {args : List (Bool × Sem Value)} {Q : Value → Shared → Prop} (hplain : args.any (·.1) = false)
    (h : wpC C A (evalArgs (.ref a) true args []) (fun x s₁ => (s₁.heap.get? a = some o ∧ o.data = .func fd) ∧ wpC C A (call (.ref a) (first ++ x.pos) x.kw) Q E s₁) E s) : wpC C A (callWith pos (.ref a) first args []) Q E s := by
  unfold callWith
  refine wpC_bind (wpC_holding (wpC_mono h (fun x s₁ h₁ => wpC_bind (wpC_standAt ?_)) fun _ _ x => x))
  simp only [hplain, List.any_nil, Bool.or_false]
  refine wpC_bind (t := keeperOf (.ref a)) ?_
  unfold keeperOf
  refine wpC_bind (wpC_of (wpAny_load h₁.1.1 ?_))
  rw [h₁.1.2]
  refine wpC_pure ?_
  have tail : ∀ {t : Sem Value}, wpC C A t Q E s₁ → wpC C A (t >>= fun r => holding [r] point >>= fun _ => pure r) Q E s₁ :=
    fun ht => wpC_bind (wpC_mono ht (fun r s₂ hr => wpC_bind (wpC_holding (wpC_point (wpC_pure hr)))) fun _ _ x => x)
  show wpC C A (if args.length + 2 * 0 > 30 then _ else _) Q E s₁
  split
  · exact tail h₁.2
  · exact tail (by unfold callMarked; exact wpC_keep h₁.2)
theorem Call_NameC {x : Str} {p pos : Pos} {args : List Expr} {trees : List (Bool × Sem Value)} {Q : Value → Shared → Prop} (ht : backTo pos (starEach args env) = trees)
    (h : wpC C A (eval (.Name x p) env) (fun f s₁ => wpC C A (callWith pos f [] trees []) Q E s₁) E s) : wpC C A (eval (.Call (.Name x p) args [] pos) env) Q E s := by
  subst ht
  exact wpC_bind h

inductive MethodOnC (C : Mod) (A : Around) (E : Value → Shared → Prop) (name : Str) (ov : Value) (pos : Pos) (args : List (Bool × Sem Value)) (Q : Value → Shared → Prop) (s : Shared) : Prop
  | mk (T id : String) (_ : PlainAttrs T) (_ : Slot T name id) (_ : typeOf (.builtin id) = pure (.type "method_descriptor")) (_ : s.TypeIs ov T)
    (_ : ∀ a, ov = .ref a → ∃ ob, s.heap.get? a = some ob ∧ ob.dict = none) (_ : wpC C A (callWith pos (.builtin id) [ov] args []) Q E s)

theorem wpC_Call_method {o : Expr} {name : Str} {apos pos : Pos} {args : List Expr} {Q : Value → Shared → Prop} (hbase : attributeBase o name env (eval o env) = eval o env)
    (hfew : ((backTo pos (starEach args env)).all (fun x => !x.1) && (backToKw pos (keywordEach [] env)).all (fun x => x.1.isSome)
      && decide (args.length + ([] : List Keyword).length + (if ([] : List Keyword).isEmpty then 0 else 1) < 30)) = true)
    (hline : (apos.endLine == pos.line) = true)
    (h : wpC C A (eval o env) (fun ov s₁ => MethodOnC C A E name ov pos (backTo pos (starEach args env)) Q s₁) E s) : wpC C A (eval (.Call (.Attribute o name apos) args [] pos) env) Q E s := by
  rw [arm_eval_Call, hbase]
  refine wpC_bind (wpC_mono h (fun ov s₁ h₁ => ?_) fun _ _ e => e)
  obtain ⟨T, id, pa, slot, hty, hT, hd, hc⟩ := h₁
  refine wpC_bind (wpC_standAt ?_)
  have hform : methodCallForm (args.length + ([] : List Keyword).length) (backTo pos (starEach args env)) (backToKw pos (keywordEach [] env)) = true := hfew
  have hpos : methodCallPos true o env apos pos = pure pos := by unfold methodCallPos; simp [hline]
  unfold methodCall
  rw [hform]
  refine wpC_bind (wpC_holding (wpC_of (getMethod_builtin hT pa slot hty hd ?_)))
  exact wpC_bind (wpC_of_eq hpos hc)

/-! statements -/
theorem wpC_execs_nil {Q : Flow → Shared → Prop} (h : Q .next s) : wpC C A (execs [] env) Q E s := wpC_of (wpAny_execs_nil h)
theorem wpC_execs_cons {st rest} {Q : Flow → Shared → Prop}
    (h : wpC C A (exec st env) (fun f s' => match f with | .next => wpC C A (execs rest env) Q E s' | f => Q f s') E s) : wpC C A (execs (st :: rest) env) Q E s := fun Γ p i j => by
  rw [execs_cons, Sem.wp_bind']
  refine Sem.wp_mono C.M Γ _ (fun f p' s' h' => ?_) (fun _ _ _ h' => h') _ _ (h Γ p i j)
  cases f <;> first | exact h' Γ p' i j | exact h'
theorem wpC_Return_some {e pos} {Q : Flow → Shared → Prop} (h : wpC C A (eval e env) (fun v => Q (.ret v)) E s) : wpC C A (exec (.Return (some e) pos) env) Q E s := by
  rw [exec_Return_some]
  exact wpC_bind (wpC_standAt (wpC_bind (wpC_mono h (fun v s' h' => wpC_pure h') fun _ _ x => x)))
theorem wpC_Assign_Name {x pos' value pos} {Q : Flow → Shared → Prop} (h : wpC C A (eval value env) (fun v s₁ => wpC C A (storeName env x v) (fun _ => Q .next) E s₁) E s)
    (hs : swapsWith value (some (.Name x pos')) pos.line env = pure false := by rfl) : wpC C A (exec (.Assign [.Name x pos'] value pos) env) Q E s := fun Γ p i j => by
  simp only [exec_Assign_Name env x pos' value pos hs, Sem.wp_bind', Sem.wp_cmd_standAt, Sem.wp_bindName, Sem.wp_pure']
  exact Sem.wp_mono C.M Γ _ (fun v _ s₁ h₁ => h₁ Γ _ i j) (fun _ _ _ h' => h') _ _ (h Γ _ i j)
theorem wpC_AugAssign_Name {x pos' op value pos} {Q : Flow → Shared → Prop}
    (h : wpC C A (loadName env x) (fun old s₁ => wpC C A (eval value env) (fun v s₂ => wpC C A (inplaceOp op old v)
      (fun r s₃ => wpC C A (storeName env x r) (fun _ => Q .next) E s₃) E s₂) E s₁) E s) : wpC C A (exec (.AugAssign (.Name x pos') op value pos) env) Q E s := fun Γ p i j => by
  simp only [exec_AugAssign_Name, Sem.wp_bind', Sem.wp_holding, Sem.wp_cmd_standAt, Sem.wp_operate, Sem.wp_bindName, Sem.wp_pure']
  exact Sem.wp_mono C.M Γ _ (fun old p₁ s₁ h₁ => Sem.wp_mono C.M Γ _ (fun v _ s₂ h₂ => Sem.wp_mono C.M Γ _ (fun r _ s₃ h₃ => h₃ Γ _ i j)
    (fun _ _ _ h' => h') _ _ (h₂ Γ _ i j)) (fun _ _ _ h' => h') _ _ (h₁ Γ p₁ i j)) (fun _ _ _ h' => h') _ _ (h Γ _ i j)
theorem wpC_If {test body orelse pos} {Q : Flow → Shared → Prop}
    (h : wpC C A (isTrue test env (eval test env)) (fun b s₂ => if b then wpC C A (execs body env) Q E s₂ else wpC C A (execs orelse env) Q E s₂) E s) : wpC C A (exec (.If test body orelse pos) env) Q E s := fun Γ p i j => by
  simp only [exec_If, Sem.wp_bind', Sem.wp_cmd_standAt]
  refine Sem.wp_mono C.M Γ _ (fun b p₂ s₂ h₂ => ?_) (fun _ _ _ h' => h') _ _ (h Γ _ i j)
  cases b <;> exact h₂ Γ p₂ i j
theorem wpC_Expr {e pos} {Q : Flow → Shared → Prop} (h : wpC C A (eval e env) (fun v s' => match v with | .ref _ => False | _ => Q .next s') E s)
    (hi : interactive env = false := by rfl) (hs : swapsWith e none pos.line env = pure false := by rfl) : wpC C A (exec (.Expr e pos) env) Q E s := by
  rw [exec_Expr env e pos hi hs]
  refine wpC_bind (wpC_standAt (wpC_bind (wpC_mono h (fun v s' h' => ?_) fun _ _ x => x)))
  have hv : ∀ a, v ≠ .ref a := fun a hva => by subst hva; exact h'
  rw [dropValue_plain hv]
  refine wpC_pure ?_
  cases v <;> first | exact h' | exact (hv _ rfl).elim
theorem wpC_Assert_holds {test : Expr} {msg : Option Expr} {pos : Pos} {Q : Flow → Shared → Prop}
    (h : wpC C A (isTrue test env (eval test env)) (fun b s₁ => b = true ∧ Q .next s₁) E s) : wpC C A (exec (.Assert test msg pos) env) Q E s := by
  rw [arm_exec_Assert]
  refine wpC_bind (wpC_standAt (wpC_bind (wpC_mono h (fun b s₁ h₁ => ?_) fun _ _ x => x)))
  obtain ⟨rfl, hq⟩ := h₁
  exact wpC_pure hq

theorem wpC_runOwn {c : Code} {h : Option Value} {Q : Flow → Shared → Prop} (hc : codeC C (A.mark h) c (fun r s' => match r with | .ok f => Q f s' | .error e => cameBackBy C.M A env E e s') s)
    (hn : calm c = true := by rfl) (hnb : h ≠ some byPass := by intro x; cases x) : wpC C A (runOwn c env h) Q E s := by
  unfold runOwn
  exact wpC_onRaise (wpC_mono (wpC_run hc hn hnb) (fun _ _ q => q) fun _ _ q => wpC_of q)
theorem wpC_While {test body orelse pos} {Q : Flow → Shared → Prop}
    (h : codeC C A (.whileLoop test body orelse env) (fun r s' => match r with | .ok f => Q f s' | .error e => cameBackBy C.M A env E e s') s) : wpC C A (exec (.While test body orelse pos) env) Q E s := by
  rw [exec_While]; exact wpC_bind (wpC_standAt (wpC_runOwn h))
theorem wpC_For {target iter body orelse pos} {Q : Flow → Shared → Prop}
    (h : wpC C A (eval iter env) (fun x s₁ => wpC C A (pyIter x) (fun it s₂ =>
      codeC C A (.forLoop target it body orelse env) (fun r s' => match r with | .ok f => Q f s' | .error e => cameBackBy C.M A env E e s') s₂) E s₁) E s)
    (hs : ∀ x, foldedSetIterable iter env x = pure x := by intro _; rfl) : wpC C A (exec (.For target iter body orelse pos) env) Q E s := by
  rw [exec_For]
  exact wpC_bind (wpC_standAt (wpC_bind (wpC_mono h (fun x s₁ h₁ => wpC_bind (wpC_of_eq (hs x) (wpC_bind (wpC_standAt (wpC_bind (wpC_holding
    (wpC_mono h₁ (fun it s₂ h₂ => wpC_runOwn h₂) fun _ _ h' => h'))))))) fun _ _ h' => h')))
theorem codeC_block {stmts : List Stmt} {R : Result → Shared → Prop}
    (h : wpC C A (execs stmts env) (fun f s' => R (.ok f) s') (notedBy C.M A env fun e s' => R (.error e) s') s) : codeC C A (.block stmts env) R s := by
  refine codeC_of_tree ?_
  show wpC C _ (do return Fin.done (← (execs stmts env).onRaise (fun x => do noteFrame x env; theTreesLotGoes x))) _ _ s
  exact wpC_bind (wpC_noted (wpC_mono h (fun f s' h' => wpC_pure h') fun _ _ h' => h'))

theorem codeC_func {body : List Stmt} {R : Result → Shared → Prop}
    (h : wpC C (A.deeper env) (execs body env) (fun f s' => R (.ok (.ret (match f with | .ret v => v | _ => .none))) s')
      (fun e s' => wpAny C.M (A.deeper env) (leaving env e) (fun _ s'' => R (.error e) s'') (fun e' s'' => R (.error e') s'') s') s) : codeC C A (.func body env) R s := by
  refine codeC_of_tree ?_
  show wpC C (A.deeper env) (do point; match ← (execs body env).onRaise (leaving env) with | .ret v => ret v | _ => ret .none) _ _ s
  refine wpC_bind (wpC_point (wpC_bind (wpC_onRaise (wpC_mono h (fun f s' h' => ?_) fun _ _ h' => wpC_of h'))))
  cases f <;> exact wpC_pure h'

theorem codeC_call_cells {R : Result → Shared → Prop} {a : Addr} {o : Obj} {fd : FuncData} {body : List Stmt} {vals : List Value} {binds : List (Str × Value)}
    (hroom : A.depth < recursionLimit) (ho : s.heap.get? a = some o) (hdata : o.data = .func fd) (hlim : s.heap.NoLimit) (hcd : s.heap.CodeRec fd.code fd.qualname)
    (hbody : fd.body = .stmts body) (hbind : bindArgs fd ⟨vals, []⟩ = pure binds) (hclo : fd.closure = [])
    (hkind : ∀ x ∈ binds, fd.scope.names.lookup x.1 = some .local ∨ (fd.scope.names.lookup x.1 = some .cell ∧ ((cellsFrom (s.heap.objs.size + 1) fd.scope.names []).lookup x.1).isSome = true))
    (h : ∀ s₁, InCallC s (callEnvC fd s.heap.objs.size a).locals (bindL (callEnvC fd s.heap.objs.size a).kindOf binds fun _ => none) (callEnvC fd s.heap.objs.size a).cells
        (bindC (callEnvC fd s.heap.objs.size a).kindOf binds fun _ => none) s₁ →
      wpC C (A.deeper (callEnvC fd s.heap.objs.size a)) (execs body (callEnvC fd s.heap.objs.size a)) (fun f s' => R (.ok (.ret (match f with | .ret v => v | _ => .none))) s')
        (fun e s' => wpAny C.M (A.deeper (callEnvC fd s.heap.objs.size a)) (leaving (callEnvC fd s.heap.objs.size a) e) (fun _ s'' => R (.error e) s'') (fun e' s'' => R (.error e') s'') s') s₁)
    (hco : fd.scope.isCoroutine = false) (hgen : fd.scope.isGenerator = false) (hk : fd.scope.kind = .function) : codeC C A (.call (.ref a) ⟨vals, []⟩) R s := by
  refine codeC_of_tree ?_
  show wpC C A.in1 (callAny (.ref a) ⟨vals, []⟩) _ _ s
  simp only [callAny]
  refine wpC_bind (wpC_of (wpAny_load ho ?_))
  refine Classical.byContradiction fun ng0 => ?_
  obtain ⟨c, oc, vs, tq, hc, hoc, hdc, hq⟩ := hcd
  refine ng0 ?_
  simp only [hdata, callFunction, hco, hgen, hbody, hc]
  refine wpC_bind (t := field (.ref c) 1) (wpC_of (wpAny_field hoc hdc hq (?_)))
  refine wpC_bind (wpC_pure ?_)
  rw [hbind, hclo]
  refine wpC_bind (wpC_pure (wpC_bind (wpC_of (wpAny_newFunctionEnv_cells hk hkind fun env he s' x => ?_))))
  rw [← hc] at he
  have he : env = callEnvC fd s.heap.objs.size a := he
  subst he
  exact wpC_bind (wpC_of (wpAny_enterFrame (hlim.keeps x.toInCall.keep) hroom (wpC_pure ⟨rfl, rfl, codeC_func (h s' x)⟩)))

theorem wpC_comprehension_free {e : Expr} {scope : Scope} {pos : Pos} {newAcc first : Sem Value} {g : Comprehension} {gs : List Comprehension} {cl : List (Str × Addr)}
    {Q : Value → Shared → Prop}
    (hcl : clausesOf e = g :: gs) (hs : ∀ x, foldedSetIterable g.iter env x = pure x) (hclos : closureFor scope env = pure cl)
    (hkind : scope.kind = .function) (hnames : ∀ x ∈ scope.names, x.2 = .local → scope.names.lookup x.1 = some .local)
    (h : wpC C A first (fun x s₁ => wpC C A (pyIter x) (fun it s₂ => wpC C A newAcc (fun acc s₃ =>
      wpC C A (newFunctionEnv scope env.globals cl [] env.qual none .none (some env)) (fun cenv s₄ =>
        codeC C A (.compStart e 0 it acc { cenv with scope := relabel scope env }) (compPost C.M A E none Q acc cenv.locals) s₄) E s₃) E s₂) E s₁) E s) :
    wpC C A (comprehension e scope env pos newAcc false first none) Q E s := by
  unfold comprehension
  rw [hclos, hcl]
  refine wpC_bind (wpC_mono h (fun x s₁ h₁ => wpC_bind (wpC_standAt (wpC_bind (wpC_of_eq (hs x) (wpC_bind (wpC_holding (wpC_mono h₁ (fun it s₂ h₂ => wpC_standIf
    (wpC_bind (wpC_mono h₂ (fun acc s₃ h₃ => wpC_bind (wpC_pure (wpC_bind (wpC_mono h₃ (fun cenv s₄ h₄ => ?_) fun _ _ h' => h')))) fun _ _ h' => h')))
      fun _ _ h' => h'))))))) fun _ _ h' => h')
  dsimp only
  have hv : ∀ x ∈ (scope.names.filter fun x => (x.2 == .local || x.2 == .cell) && x.1 != (".0" : Str)).reverse, x.2 = .local →
      Env.kindOf { cenv with scope := relabel scope env } x.1 = some .local := fun x hx hl => lookup_relabel_local (hnames x (List.mem_filter.mp (List.mem_reverse.mp hx)).1 hl)
  refine wpC_holding (wpC_bind (wpC_attempt (wpC_holding (wpC_run (codeC_mono h₄ fun r s' hr => ?_)))))
  cases r with
  | ok f =>
    obtain ⟨m, hn, hr⟩ := hr
    exact wpC_bind (wpC_of (wpAny_holding (wpAny_comp_letGo (cenv := { cenv with scope := relabel scope env }) hkind _ s' m hv hn fun h' m' _ hs' => wpC_pure (hr h' hs'))))
  | error x =>
    obtain ⟨m, hn, hr⟩ := hr
    exact wpC_bind (wpC_of (wpAny_holding (wpAny_comp_letGo (cenv := { cenv with scope := relabel scope env }) hkind _ s' m hv hn fun h' m' _ hs' => wpC_of (wpAny_mono (hr h' hs' _ rfl) (fun _ _ f => f.elim) fun _ _ y => y))))
end Mine
end
section
open PySem PySem.W PyProof.Rows
namespace Mine
/-! expressions, by rules of their own -/
structure Cx (C : Mod) where
  env : Env
  m : Str → Option Value
  A : Around
noncomputable abbrev Ct := Str → Option D
noncomputable def Vr (g : Frz) (ρ : Ct) (m : Str → Option Value) : Prop := ∀ x d, ρ x = some d → ∃ v, m x = some v ∧ R g d v
theorem Vr.mono {g g' : Frz} {ρ : Ct} {m : Str → Option Value} (h : Vr g ρ m) (hg : g.le g') : Vr g' ρ m := fun x d e => let ⟨v, a, b⟩ := h x d e; ⟨v, a, b.mono hg⟩
variable {C : Mod} {k : Nat} {sc : Names} {ρ : Ct} {X : Cx C} {g g' : Frz} {s s' : Shared}
structure On (k : Nat) (sc : Names) (ρ : Ct) (X : Cx C) (g : Frz) (s : Shared) : Prop where
  nm : X.env.scope.names = sc
  fr : Frame C s.heap X.env X.m
  vr : Vr g ρ X.m
  rm : Room k X.A
  gd : Good C g s
theorem On.st (I : On k sc ρ X g s) (h : Step C g s g' s') : On k sc ρ X g' s' := ⟨I.nm, I.fr.step h, I.vr.mono h.grow, I.rm, h.good⟩
noncomputable def Ev (C : Mod) (k : Nat) (sc : Names) (ρ : Ct) (e : Expr) (d : D) : Prop := ∀ (X : Cx C) g s, On k sc ρ X g s → GivesC C X.A g s (eval e X.env) d
noncomputable def EvL (C : Mod) (k : Nat) (sc : Names) (ρ : Ct) (es : List Expr) (ds : List D) : Prop := ∀ (X : Cx C) g s pos, On k sc ρ X g s →
  (∀ p, (backTo p (starEach es X.env)).any (·.1) = false) ∧ (∀ p, (backTo p (starEach es X.env)).all (fun x => !x.1) = true) ∧ YieldsC C X.A g s (spliced (backTo pos (starEach es X.env))) (fun g' _ vs => RL g' ds vs)
noncomputable def EvT (C : Mod) (k : Nat) (sc : Names) (ρ : Ct) (e : Expr) (b : Bool) : Prop := ∀ (X : Cx C) g s, On k sc ρ X g s → YieldsC C X.A g s (isTrue e X.env (eval e X.env)) (fun _ _ v => v = b)
noncomputable def EvA (C : Mod) (k : Nat) (sc : Names) (ρ : Ct) (op : BoolOp) (es : List Expr) (b : Bool) : Prop := ∀ (X : Cx C) g s, On k sc ρ X g s → YieldsC C X.A g s (allTrue op es X.env) (fun _ _ v => v = b)
noncomputable def EvO (C : Mod) (k : Nat) (sc : Names) (ρ : Ct) (e : Option Expr) (d : D) : Prop := ∀ (X : Cx C) g s, On k sc ρ X g s → GivesC C X.A g s (evalPart e X.env) d

theorem e_none {a p} : Ev C k sc ρ (.Constant .none a p) .none := fun X g s I E Q q => wpC_of <| wpAny_Constant_none (q _ _ _ (Step.refl I.gd) rfl)
theorem e_bool {b a p} : Ev C k sc ρ (.Constant (.bool b) a p) (.bool b) := fun X g s I E Q q => wpC_of <| wpAny_Constant_bool (q _ _ _ (Step.refl I.gd) rfl)
theorem e_int {i a p} : Ev C k sc ρ (.Constant (.int i) a p) (.int i) := fun X g s I E Q q => wpC_of <| wpAny_Constant_int (q _ _ _ (Step.toks I.gd _) ⟨s.toks, rfl⟩)
theorem e_str {x a p} : Ev C k sc ρ (.Constant (.str x) a p) (.str x.cps.toList) := fun X g s I E Q q => wpC_of <| wpAny_Constant_str (q _ _ _ (Step.toks I.gd _) ⟨s.toks, rfl⟩)
theorem e_name {x p d} (hx : ρ x = some d) (hv : isVar (sc.lookup x) = true) (h1 : (x == ("__debug__" : Str)) = false) (h2 : (x == ("__classdict__" : Str)) = false) : Ev C k sc ρ (.Name x p) d := fun X g s I E Q q =>
  let ⟨v, hm, hR⟩ := I.vr x d hx
  wpC_of <| wpAny_Name (load_var I.fr (by unfold Env.kindOf; rw [I.nm]; exact hv) h2 hm (q _ _ _ (Step.refl I.gd) hR)) h1
theorem e_glob {x p d v} (hg : sc.lookup x = some .globalImplicit) (h1 : (x == ("__debug__" : Str)) = false) (hm : C.mg x = some v) (hR : ∀ g, C.Base g → R g d v) : Ev C k sc ρ (.Name x p) d := fun X g s I E Q q =>
  wpC_of <| load_glob I.fr I.gd (by unfold Env.kindOf; rw [I.nm]; exact hg) h1 hm (q _ _ _ (Step.refl I.gd) (hR g I.gd.base))
noncomputable def Bin (C : Mod) (k : Nat) (op : Operator) (a b r : D) : Prop := ∀ A g s u v, Room k A → Good C g s → R g a u → R g b v → Gives C A g s (binaryOp op u v) r
theorem e_bin {l op r p a b d} (hl : Ev C k sc ρ l a) (hr : Ev C k sc ρ r b) (h : Bin C k op a b d) : Ev C k sc ρ (.BinOp l op r p) d := fun X g s I E Q q =>
  wpC_BinOp (hl X g s I E _ fun v g1 s1 t1 hv => hr X g1 s1 (I.st t1) E _ fun w g2 s2 t2 hw => wpC_of <| h X.A g2 s2 v w I.rm t2.good (hv.mono t2.grow) hw E Q fun x g3 s3 t3 hx => q _ _ _ (t1.trans (t2.trans t3)) hx)
noncomputable def Tru (C : Mod) (d : D) (b : Bool) : Prop := ∀ A g s v E Q, Good C g s → R g d v → (∀ s', Step C g s g s' → Q b s') → wpAny C.M A (truthy v) Q E s
theorem e_not {x p a b} (hx : Ev C k sc ρ x a) (h : Tru C a b) : Ev C k sc ρ (.UnaryOp .Not x p) (.bool (!b)) := fun X g s I E Q q =>
  wpC_UnaryOp (hx X g s I E _ fun v g1 s1 t1 hv => wpC_of <| not_value (h X.A g1 s1 v E _ t1.good hv fun s' t => q _ _ _ (t1.trans t) rfl))
theorem e_neg {x p i} (hx : Ev C k sc ρ x (.int i)) : Ev C k sc ρ (.UnaryOp .USub x p) (.int (-i)) := fun X g s I E Q q =>
  wpC_UnaryOp (hx X g s I E _ fun v g1 s1 t1 hv => let ⟨t, e⟩ := hv; e ▸ wpC_of (P.neg_int (q _ _ _ (t1.trans (Step.toks t1.good _)) ⟨s1.toks, rfl⟩)))
theorem e_ifT {t b o p d} (ht : EvT C k sc ρ t true) (hb : Ev C k sc ρ b d) : Ev C k sc ρ (.IfExp t b o p) d := fun X g s I E Q q =>
  wpC_IfExp (ht X g s I E _ fun v g1 s1 t1 hv => by rw [hv]; exact hb X g1 s1 (I.st t1) E Q fun w g2 s2 t2 hw => q _ _ _ (t1.trans t2) hw)
theorem e_ifF {t b o p d} (ht : EvT C k sc ρ t false) (hb : Ev C k sc ρ o d) : Ev C k sc ρ (.IfExp t b o p) d := fun X g s I E Q q =>
  wpC_IfExp (ht X g s I E _ fun v g1 s1 t1 hv => by rw [hv]; exact hb X g1 s1 (I.st t1) E Q fun w g2 s2 t2 hw => q _ _ _ (t1.trans t2) hw)
noncomputable def Cmp (C : Mod) (k : Nat) (op : CmpOp) (a b : D) (r : Bool) : Prop := ∀ A g s u v E Q, Room k A → Good C g s → R g a u → R g b v → Q (.bool r) s → wpAny C.M A (compareOp op u v) Q E s
theorem cmp2 {l op r a b c} (hl : Ev C k sc ρ l a) (hr : Ev C k sc ρ r b) (h : Cmp C k op a b c) (I : On k sc ρ X g s) {E : Value → Shared → Prop} {Q : Value → Shared → Prop} (q : ∀ g' s', Step C g s g' s' → Q (.bool c) s') :
    wpC C X.A (eval l X.env) (fun a s₁ => wpC C X.A (eval r X.env) (fun b s₂ => wpC C X.A (compareOp op a b) Q E s₂) E s₁) E s :=
  hl X g s I E _ fun v g1 s1 t1 hv => hr X g1 s1 (I.st t1) E _ fun w g2 s2 t2 hw => wpC_of <| h X.A g2 s2 v w E Q I.rm t2.good (hv.mono t2.grow) hw (q _ _ (t1.trans t2))
theorem marks_plain {op : CmpOp} {r : Expr} (h : isSet r = false) : behindInMarks op r = false := by
  cases r <;> first | rfl | cases h
theorem fold_plain {it : Expr} (h : isSet it = false) (env : Env) (x : Value) : foldedSetIterable it env x = pure x := by
  unfold foldedSetIterable
  cases it <;> first | rfl | cases h
theorem e_cmp {l op r p a b c} (hl : Ev C k sc ρ l a) (hr : Ev C k sc ρ r b) (h : Cmp C k op a b c) (hs : isSet r = false) : Ev C k sc ρ (.Compare l [op] [r] p) (.bool c) := fun X g s I E Q q =>
  wpC_Compare1 (cmp2 hl hr h I fun g' s' t => q _ _ _ t rfl) (marks_plain hs)
theorem t_cmp {l op r p a b c} (hl : Ev C k sc ρ l a) (hr : Ev C k sc ρ r b) (h : Cmp C k op a b c) (hs : isSet r = false) : EvT C k sc ρ (.Compare l [op] [r] p) c := fun X g s I E Q q =>
  wpC_isTrue_Compare1 (cmp2 hl hr h I fun g' s' t => wpC_of <| wpAny_truthy_bool (q _ _ _ t rfl)) (marks_plain hs)
theorem t_not {x p b} (hx : EvT C k sc ρ x b) : EvT C k sc ρ (.UnaryOp .Not x p) (!b) := fun X g s I E Q q =>
  wpC_isTrue_Not (hx X g s I E _ fun v g' s' t hv => q _ _ _ t (congrArg _ hv))
theorem t_bo {op vs p b} (h : EvA C k sc ρ op vs b) : EvT C k sc ρ (.BoolOp op vs p) b := fun X g s I E Q q => wpC_isTrue_BoolOp (h X g s I E Q q)
theorem a_nil {op} : EvA C k sc ρ op [] (op == .And) := fun X g s I E Q q => match op with
  | .And => wpC_allTrue_And_nil (q _ _ _ (Step.refl I.gd) rfl)
  | .Or => wpC_allTrue_Or_nil (q _ _ _ (Step.refl I.gd) rfl)
theorem a_or1 {x r} (h : EvT C k sc ρ x true) : EvA C k sc ρ .Or (x :: r) true := fun X g s I E Q q =>
  wpC_allTrue_Or_cons (h X g s I E _ fun v g1 s1 t hv => by rw [hv]; exact q _ _ _ t rfl)
theorem a_or0 {x r b} (h : EvT C k sc ρ x false) (hr : EvA C k sc ρ .Or r b) : EvA C k sc ρ .Or (x :: r) b := fun X g s I E Q q =>
  wpC_allTrue_Or_cons (h X g s I E _ fun v g1 s1 t hv => by rw [hv]; exact hr X g1 s1 (I.st t) E Q fun w g' s' t' hw => q _ _ _ (t.trans t') hw)
noncomputable def valT : Expr → Bool
  | .UnaryOp .Not _ _ | .BoolOp .. | .IfExp .. | .Compare .. => false
  | _ => true
theorem isTrue_val {e : Expr} {env : Env} {whole : Sem Value} (h : valT e = true) : isTrue e env whole = (do let v ← whole; standAt e.pos; holding [v] (truthy v)) := by
  cases e with
  | UnaryOp op x p => cases op <;> first | rfl | cases h
  | BoolOp o v p => cases h
  | IfExp t b o p => cases h
  | Compare l o c p => cases h
  | _ => rfl
theorem t_val {e a b} (h : Ev C k sc ρ e a) (ht : Tru C a b) (hv : valT e = true) : EvT C k sc ρ e b := fun X g s I E Q q =>
  wpC_isTrue_value (h X g s I E _ fun v g1 s1 t1 hv => wpC_of <| ht X.A g1 s1 v E _ t1.good hv fun s' t => q _ _ _ (t1.trans t) rfl) (isTrue_val hv)
theorem l_nil : EvL C k sc ρ [] [] := fun X g s pos I => ⟨fun _ => rfl, fun _ => rfl, fun E Q q => wpC_items_nil (q _ _ _ (Step.refl I.gd) RL.nil)⟩
theorem l_cons {e es d ds} (h : Ev C k sc ρ e d) (hl : EvL C k sc ρ es ds) (hs : isStar e = false) : EvL C k sc ρ (e :: es) (d :: ds) := fun X g s pos I => by
  refine Classical.byContradiction fun ng0 => ?_
  obtain ⟨p1, p2, _⟩ := hl X g s pos I
  refine ng0 ?_
  refine ⟨fun p => ?_, fun p => ?_, fun E Q q => wpC_items_cons (h X g s I E _ fun v g1 s1 t1 hv => (hl X g1 s1 pos (I.st t1)).2.2 E _ fun vs g2 s2 t2 hvs => q _ _ _ (t1.trans t2) (RL.cons (hv.mono t2.grow) hvs)) (starEach_plain hs)⟩
  · rw [starEach_plain hs]; exact p1 p
  · rw [starEach_plain hs]; exact p2 p
theorem e_list {es ds p} (h : EvL C k sc ρ es ds) (hl : ds.length ≤ lim) : Ev C k sc ρ (.List es p) (.list ds) := fun X g s I E Q q =>
  wpC_List ((h X g s p I).2.2 E _ fun vs g1 s1 t1 hv => ⟨by rw [hv.length, sizeLine_is]; exact hl, q _ _ _ (t1.trans (Step.push t1.good (listObj vs 0) rfl s1.toks)) ⟨_, vs, 0, rfl, Frz.put_self .., hv.mono (Frz.le_put t1.good.new)⟩⟩)
theorem e_tuple {es ds kk p} (h : EvL C k sc ρ es ds) (hl : ds.length ≤ lim) : Ev C k sc ρ (.Tuple es kk p) (.tuple ds) := fun X g s I E Q q =>
  wpC_Tuple ((h X g s p I).2.2 E _ fun vs g1 s1 t1 hv => ⟨by rw [hv.length, sizeLine_is]; exact hl, q _ _ _ (t1.trans (Step.push t1.good (tupObj vs 0) rfl s1.toks)) ⟨_, vs, 0, rfl, Frz.put_self .., hv.mono (Frz.le_put t1.good.new)⟩⟩)
theorem o_none : EvO C k sc ρ none .none := fun X g s I E Q q => wpC_pure (q _ _ _ (Step.refl I.gd) rfl)
theorem o_some {e d} (h : Ev C k sc ρ e d) : EvO C k sc ρ (some e) d := h
noncomputable def Itm (a b d : D) : Prop := ∀ (C : Mod) (A : Around) (g : Frz) (s : Shared) (u v : Value) (value slice : Expr), Good C g s → R g a u → R g b v → Gives C A g s (subscriptTail value slice u v) d
noncomputable def Slc (d lo hi st r : D) : Prop := ∀ (C : Mod) (A : Around) (g : Frz) (s : Shared) (u vl vu vs : Value) (sl : Addr) (value slice : Expr), Good C g s → R g d u → R g lo vl → R g hi vu → R g st vs → s.heap.get? sl = some { cls := .type "slice", data := .fields #[vl, vu, vs] } →
  Gives C A g s (subscriptTail value slice u (.ref sl)) r
theorem e_slice {v a b c p1 p2 d1 d2 d3 d4 d} (hv : Ev C k sc ρ v d1) (ha : EvO C k sc ρ a d2) (hb : EvO C k sc ρ b d3) (hc : EvO C k sc ρ c d4) (h : Slc d1 d2 d3 d4 d) : Ev C k sc ρ (.Subscript v (.Slice a b c p1) p2) d := fun X g s I E Q q =>
  Subscript_C (hv X g s I E _ fun o g1 s1 t1 ho => wpC_Slice (ha X g1 s1 (I.st t1) E _ fun vl g2 s2 t2 hl => hb X g2 s2 ((I.st t1).st t2) E _ fun vu g3 s3 t3 hu => hc X g3 s3 (((I.st t1).st t2).st t3) E _ fun vs g4 s4 t4 hs => by
    have t5 : Step C g4 s4 g4 { s4 with heap := s4.heap.push { cls := .type "slice", data := .fields #[vl, vu, vs] } } := Step.grew (tk := s4.toks) t4.good fun a x e => Heap.get?_push_of_some _ e
    have g34 := Frz.le_trans t3.grow t4.grow
    exact wpC_of <| h _ _ _ _ _ _ _ _ _ _ _ t5.good (ho.mono (Frz.le_trans t2.grow g34)) (hl.mono g34) (hu.mono t4.grow) hs (Heap.get?_push_size _ rfl) E Q fun w g6 s6 t6 hw => q _ _ _ (t1.trans (t2.trans (t3.trans (t4.trans (t5.trans t6))))) hw))
theorem e_item {v i p d1 d2 d} (hv : Ev C k sc ρ v d1) (hi : Ev C k sc ρ i d2) (h : Itm d1 d2 d) : Ev C k sc ρ (.Subscript v i p) d := fun X g s I E Q q =>
  Subscript_C (hv X g s I E _ fun o g1 s1 t1 ho => hi X g1 s1 (I.st t1) E _ fun w g2 s2 t2 hw => wpC_of <| h _ _ _ _ _ _ _ _ t2.good (ho.mono t2.grow) hw E Q fun x g3 s3 t3 hx => q _ _ _ (t1.trans (t2.trans t3)) hx)
end Mine
end
section
open PySem PySem.W PyProof.Rows
namespace Mine
/-! calls -/
variable {C : Mod} {k : Nat} {sc : Names} {ρ : Ct} {X : Cx C} {g g' : Frz} {s s' : Shared}
theorem On.kg (I : On k sc ρ X g s) {f : Str} (h : sc.lookup f = some .globalImplicit) : X.env.kindOf f = some .globalImplicit := by unfold Env.kindOf; rw [I.nm]; exact h
noncomputable def EvR (C : Mod) (k : Nat) (sc : Names) (ρ : Ct) (es : List Expr) (ds : List D) : Prop := ∀ (X : Cx C) g s pos, On k sc ρ X g s →
  (backTo pos (starEach es X.env)).any (·.1) = false ∧ (backTo pos (starEach es X.env)).all (fun x => !x.1) = true ∧
  ∀ f E (Q : Args → Shared → Prop), (∀ vs g' s', Step C g s g' s' → RL g' ds vs → Q ⟨vs, []⟩ s') → wpC C X.A (evalArgs f true (backTo pos (starEach es X.env)) []) Q E s
theorem r_nil : EvR C k sc ρ [] [] := fun X g s pos I => ⟨rfl, rfl, fun f E Q q => wpC_of <| evalArgs_nil3 (q [] g s (Step.refl I.gd) RL.nil)⟩
theorem r_of {e es ds} (h : EvL C k sc ρ (e :: es) ds) (hs : isStar e = false) : EvR C k sc ρ (e :: es) ds := fun X g s pos I => by
  refine Classical.byContradiction fun ng0 => ?_
  obtain ⟨p1, p2, key⟩ := h X g s pos I
  refine ng0 ?_
  refine ⟨p1 pos, p2 pos, fun f E Q q => ?_⟩
  have key := key E (fun vs s' => Q ⟨vs, []⟩ s') q
  rw [starEach_plain hs] at key ⊢
  exact evalArgs_plainC key
noncomputable def MethG (C : Mod) (k : Nat) (d : D) (name : Str) (l : List D) (r : D) : Prop := ∀ A g s ov, Room k A → Good C g s → R g d ov → Meth C A g s ov name l r
theorem e_meth {o name apos args pos d l r} (ho : Ev C k sc ρ o d) (hr : EvR C k sc ρ args l) (hm : MethG C k d name l r) (hlen : decide (args.length < 20) = true) (hline : (apos.endLine == pos.line) = true) (hc : isCall0 o = false) :
    Ev C k sc ρ (.Call (.Attribute o name apos) args [] pos) r := fun X g s I E Q q => by
  refine Classical.byContradiction fun ng0 => ?_
  obtain ⟨p1, p2, _⟩ := hr X g s pos I
  refine ng0 ?_
  refine wpC_Call_method (attributeBase_plain hc) ?_ hline ?_
  · rw [p2]
    show (true && true && decide (args.length + 0 + 0 < 30)) = true
    exact decide_eq_true (Nat.lt_of_lt_of_le (of_decide_eq_true hlen) (by decide))
  · refine ho X g s I E _ fun ov g1 s1 t1 hv => ?_
    refine Classical.byContradiction fun ng0 => ?_
    obtain ⟨T, id, pa, slot, ty, hT, hd, call⟩ := hm X.A g1 s1 ov I.rm t1.good hv
    refine ng0 ?_
    exact ⟨T, id, pa, slot, ty, hT, hd, callWith_builtinC p1 ((hr X g1 s1 pos (I.st t1)).2.2 _ E _ fun vs g2 s2 t2 hvs => wpC_of <| call g2 s2 vs t2 hvs E Q fun w g3 s3 t3 hw => q _ _ _ (t1.trans (t2.trans t3)) hw)⟩
noncomputable def CallG (C : Mod) (k : Nat) (v : Value) (l : List D) (r : D) : Prop := ∀ A g s vs, Room k A → Good C g s → RL g l vs → GivesC C A g s (call v vs) r
theorem e_bltn {f fp args pos id l r} (hr : EvR C k sc ρ args l) (h : CallG C k (.builtin id) l r) (hf : sc.lookup f = some .globalImplicit) (h1 : (f == ("__debug__" : Str)) = false) (hm : C.mg f = none) (hb : C.mb f = some (.builtin id)) :
    Ev C k sc ρ (.Call (.Name f fp) args [] pos) r := fun X g s I E Q q => 
  Call_NameC rfl (wpC_of <| load_bltn I.fr I.gd (I.kg hf) h1 hm hb (callWith_builtinC (hr X g s pos I).1 ((hr X g s pos I).2.2 _ E _ fun vs g1 s1 t1 hvs => h X.A g1 s1 vs I.rm t1.good hvs E Q fun w g2 s2 t2 hw => q _ _ _ (t1.trans t2) hw)))
theorem e_type {f fp args pos T l r} (hr : EvR C k sc ρ args l) (h : CallG C k (.type T) l r) (hf : sc.lookup f = some .globalImplicit) (h1 : (f == ("__debug__" : Str)) = false) (hm : C.mg f = none) (hb : C.mb f = some (.type T)) :
    Ev C k sc ρ (.Call (.Name f fp) args [] pos) r := fun X g s I E Q q => 
  Call_NameC rfl (wpC_of <| load_bltn I.fr I.gd (I.kg hf) h1 hm hb (callWith_typeC (hr X g s pos I).1 ((hr X g s pos I).2.2 _ E _ fun vs g1 s1 t1 hvs => h X.A g1 s1 vs I.rm t1.good hvs E Q fun w g2 s2 t2 hw => q _ _ _ (t1.trans t2) hw)))
inductive FnG (C : Mod) (k : Nat) (f : Str) (l : List D) (r : D) : Prop
  | mk (a : Addr) (o : Obj) (fd : FuncData) (_ : C.mg f = some (.ref a)) (_ : ∀ g, C.Base g → g a = some o) (_ : o.data = .func fd) (_ : CallG C k (.ref a) l r)
theorem e_fn {f fp args pos l r} (hr : EvR C k sc ρ args l) (h : FnG C k f l r) (hf : sc.lookup f = some .globalImplicit) (h1 : (f == ("__debug__" : Str)) = false) : Ev C k sc ρ (.Call (.Name f fp) args [] pos) r := fun X g s I E Q q => by
  obtain ⟨a, o, fd, hm, hb, hd, hg⟩ := h
  exact Call_NameC rfl (wpC_of <| load_glob I.fr I.gd (I.kg hf) h1 hm (callWith_functionC (o := o) (fd := fd) (hr X g s pos I).1 ((hr X g s pos I).2.2 _ E _ fun vs g1 s1 t1 hvs =>
    ⟨⟨t1.good.stays _ _ (hb g1 t1.good.base), hd⟩, hg X.A g1 s1 vs I.rm t1.good hvs E Q fun w g2 s2 t2 hw => q _ _ _ (t1.trans t2) hw⟩)))
theorem isi_list {A : Around} {E : Value → Shared → Prop} {a : Addr} (hT : s.TypeIs (.ref a) "list") {Q : Value → Shared → Prop} (h : Q (.bool false) { s with toks := s.toks + 1 }) : wpAny C.M A (call (.builtin "isinstance") [.ref a, .type "str"]) Q E s :=
  call_isinstance (isinstance_false_list (by decide +kernel) F.isi_meta_str F.sub_list_str) ⟨hT, h⟩
theorem isi_list_str {xs : List D} {v : Value} (hv : v = .type "str") : ∀ A g s vs, Good C g s → (∃ u, vs = [u, v] ∧ R g (.list xs) u) → GivesC C A g s (call (.builtin "isinstance") vs) (.bool false) := fun A g s vs G h E Q q => by
  obtain ⟨u, rfl, hu⟩ := h
  subst hv
  obtain ⟨a, ws, n, rfl, hg, _⟩ := hu
  exact wpC_of <| isi_list ⟨_, G.stays _ _ hg, rfl⟩ (q _ _ _ (Step.toks G _) rfl)
theorem e_isi {x tp fp pos xs} (hx : Ev C k sc ρ x (.list xs)) (hs : isStar x = false) (hf : sc.lookup ("isinstance" : Str) = some .globalImplicit) (ht : sc.lookup ("str" : Str) = some .globalImplicit)
    (hm : C.mg ("isinstance" : Str) = none ∧ C.mb ("isinstance" : Str) = some (.builtin "isinstance")) (hm2 : C.mg ("str" : Str) = none ∧ C.mb ("str" : Str) = some (.type "str")) :
    Ev C k sc ρ (.Call (.Name "isinstance" fp) [x, .Name "str" tp] [] pos) (.bool false) := fun X g s I E Q q => by
  refine Call_NameC rfl (wpC_of <| load_bltn I.fr I.gd (I.kg hf) (by decide +kernel) hm.1 hm.2 ?_)
  have e : starEach [x, .Name "str" tp] X.env = [(false, eval x X.env), (false, eval (.Name "str" tp) X.env)] := by rw [starEach_plain hs]; rfl
  refine callWith_builtinC (by rw [e]; rfl) ?_
  rw [e]
  refine evalArgs_plainC (spliced_consC (hx X g s I E _ fun v g1 s1 t1 hv => spliced_consC (wpC_of <| load_bltn (I.st t1).fr t1.good (I.kg ht) (by decide +kernel) hm2.1 hm2.2 (spliced_nilC ?_))))
  exact isi_list_str rfl X.A g1 s1 _ t1.good ⟨v, rfl, hv⟩ E Q fun w g2 s2 t2 hw => q _ _ _ (t1.trans t2) hw
noncomputable def AttG (C : Mod) (k : Nat) (d : D) (name : Str) (r : D) : Prop := ∀ A g s v, Room k A → Good C g s → R g d v → Gives C A g s (getAttr v name true) r
theorem e_att {o name p d r} (ho : Ev C k sc ρ o d) (h : AttG C k d name r) (hc : isCall0 o = false) : Ev C k sc ρ (.Attribute o name p) r := fun X g s I E Q q => by
  rw [arm_eval_Attribute, attributeBase_plain hc]
  refine wpC_bind (ho X g s I E _ fun v g1 s1 t1 hv => wpC_bind (wpC_standAt (wpC_bind (wpC_holding (wpC_of <| h X.A g1 s1 v I.rm t1.good hv E _ fun w g2 s2 t2 hw => ?_)))))
  exact wpC_bind (wpC_of <| wpAny_letTemporaryGo (wpC_pure (q _ _ _ (t1.trans t2) hw)))
end Mine
end
section
open PySem PySem.W PyProof.Rows
namespace Mine
/-! comprehensions: the loop -/
variable {C : Mod} {k : Nat} {sc : Names} {ρ ρ' : Ct} {X : Cx C} {g g' : Frz} {s s' : Shared} {A : Around} {E : Value → Shared → Prop} {env : Env} {m : Str → Option Value}
noncomputable def ups (ρ : Ct) (x : Str) (d : D) : Ct := fun y => if y = x then some d else ρ y
theorem Vr.cons {x : Str} {d : D} {v : Value} (h : Vr g ρ m) (hv : R g d v) : Vr g (ups ρ x d) (upd m x v) := fun y e hy => by
  unfold ups at hy
  by_cases q : y = x
  · rw [if_pos q] at hy; cases hy
    exact ⟨v, if_pos q, hv⟩
  · rw [if_neg q] at hy
    obtain ⟨w, hw, hR⟩ := h y e hy
    exact ⟨w, (if_neg q).trans hw, hR⟩
theorem Vr.other {x : Str} {v : Value} (h : Vr g ρ m) (hx : ρ x = none) : Vr g ρ (upd m x v) := fun y e hy => by
  obtain ⟨w, hw, hR⟩ := h y e hy
  exact ⟨w, (if_neg (fun q => by rw [q, hx] at hy; cases hy)).trans hw, hR⟩
theorem place_local {x : Str} (h : env.kindOf x = some .local) : place env x = env.locals := by unfold place; rw [if_pos h]
noncomputable def Cx.at (X : Cx C) (m : Str → Option Value) : Cx C := ⟨X.env, m, X.A⟩
structure AccAt (C : Mod) (env : Env) (I acc : Addr) (g : Frz) (s : Shared) (ys : List Value) (yn : Nat) : Prop where
  at_ : s.heap.get? acc = some (listObj ys yn)
  ga : g acc = none
  ta : acc ∉ C.tabs
  gI : g I = none
  tI : I ∉ C.tabs
  gL : g env.locals = none
  lv : LiveIt s.heap I
variable {I acc : Addr} {ys : List Value} {yn : Nat}
theorem live_get {h : Heap} (x : LiveIt h I) : ∃ o, h.get? I = some o := let ⟨o, _, _, ho, _, _, _⟩ := x; ⟨o, ho⟩
theorem AccAt.st (a : AccAt C X.env I acc g s ys yn) (I0 : On k sc ρ X g s) (t : Step C g s g' s') : AccAt C X.env I acc g' s' ys yn := by
  refine Classical.byContradiction fun ng0 => ?_
  obtain ⟨o, ho⟩ := live_get a.lv
  obtain ⟨ml, ⟨oL, es, ep, hL, _⟩, _⟩ := I0.fr.ns
  refine ng0 ?_
  exact ⟨t.keep _ _ a.ta a.at_, (t.fresh _ _ a.at_).trans a.ga, a.ta, (t.fresh _ _ ho).trans a.gI, a.tI, (t.fresh _ _ hL).trans a.gL, a.lv.keep fun o => t.keep _ o a.tI⟩
theorem AccAt.nl (a : AccAt C X.env I acc g s ys yn) : acc ≠ I := fun q => by
  obtain ⟨o, T, fs, ho, hc, hd, hn⟩ := a.lv
  rw [← q, a.at_] at ho; cases ho; cases hd
theorem live_ne_ns {h : Heap} (x : LiveIt h I) (F : Frame C h env m) : I ≠ env.locals := fun q => by
  obtain ⟨o, T, fs, ho, hc, hd, hn⟩ := x
  obtain ⟨ml, ⟨o', es, ep, ho', hd', _⟩, _⟩ := F.ns
  rw [← q, ho] at ho'; cases ho'; rw [hd] at hd'; cases hd'
theorem list_ne_ns {h : Heap} {a : Addr} {vs : List Value} {n : Nat} (e : h.get? a = some (listObj vs n)) (F : Frame C h env m) : a ≠ env.locals := fun q => by
  obtain ⟨ml, ⟨o', es, ep, ho', hd', _⟩, _⟩ := F.ns
  rw [← q, e] at ho'; cases ho'; cases hd'
theorem Frame.keepA {h h' : Heap} {z : Addr} {oz : Obj} (F : Frame C h env m) (hk : ∀ b o, b ≠ z → h.get? b = some o → h'.get? b = some o) (hz : h.get? z = some oz) (n1 : z ≠ env.locals) (n2 : ∀ v, oz.data ≠ .cell v) : Frame C h' env m := by
  refine ⟨F.fn, F.glob, F.blt, ?_, fun x hx => ?_, F.locT, F.apart, F.code⟩
  · refine Classical.byContradiction fun ng0 => ?_
    obtain ⟨ml, ⟨o, es, ep, ho, r⟩, e⟩ := F.ns
    refine ng0 ?_
    exact ⟨ml, ⟨o, es, ep, hk _ _ (Ne.symm n1) ho, r⟩, e⟩
  · refine Classical.byContradiction fun ng0 => ?_
    obtain ⟨c, e, ⟨o, ho, hd⟩, n⟩ := F.cell x hx
    refine ng0 ?_
    exact ⟨c, e, ⟨o, hk _ _ (fun q => by rw [q, hz] at ho; cases ho; exact n2 _ hd) ho, hd⟩, n⟩
noncomputable def Tst (C : Mod) (k : Nat) (sc : Names) (ρ : Ct) (ifs : List Expr) (b : Bool) : Prop := ∀ (X : Cx C) g s, On k sc ρ X g s →
  YieldsC C X.A g s (forIn ifs true fun c r => if r = true then do let ok ← isTrue c X.env (eval c X.env); pure (ForInStep.yield ok) else pure (ForInStep.yield r)) (fun _ _ v => v = b)
theorem ts_nil : Tst C k sc ρ [] true := fun X g s I E Q q => wpC_pure (q _ _ _ (Step.refl I.gd) rfl)
theorem ts_one {c b} (h : EvT C k sc ρ c b) : Tst C k sc ρ [c] b := fun X g s I E Q q => by
  rw [List.forIn_cons]
  exact wpC_bind (wpC_bind (h X g s I E _ fun v g' s' t hv => wpC_pure (show wpC C X.A (pure v) Q E s' from wpC_pure (q _ _ _ t hv))))
noncomputable def Bnd (C : Mod) (k : Nat) (sc : Names) (t : Expr) (d : D) (ρ ρ' : Ct) : Prop := ∀ (X : Cx C) g s v E (Q : Unit → Shared → Prop), On k sc ρ X g s → R g d v → g X.env.locals = none →
  (∀ m' s', StepB C (fun a => a = X.env.locals) g s g s' → On k sc ρ' (X.at m') g s' → On k sc ρ (X.at m') g s' → Q () s') → wpAny C.M X.A (assign t X.env v) Q E s
theorem store_step {x : Str} {v : Value} {d : D} (I : On k sc ρ X g s) (hx : sc.lookup x = some .local) (hn : ρ x = none) (hv : R g d v) (hL : g X.env.locals = none) {Q : Unit → Shared → Prop}
    (h : ∀ s', StepB C (fun a => a = X.env.locals) g s g s' → On k sc (ups ρ x d) (X.at (upd X.m x v)) g s' → On k sc ρ (X.at (upd X.m x v)) g s' → Q () s') : wpAny C.M X.A (storeName X.env x v) Q E s := by
  have hk : X.env.kindOf x = some .local := by unfold Env.kindOf; rw [I.nm]; exact hx
  refine I.fr.store (.inl hk) fun h' tk F' hk' hl => ?_
  rw [place_local hk] at hk'
  have st : StepB C (fun a => a = X.env.locals) g s g { s with heap := h', toks := tk } := StepB.upd I.gd (fun a q => q ▸ ⟨hL, I.fr.locT⟩) fun a o n e => hk' a o n e
  exact h _ st ⟨I.nm, F', I.vr.cons hv, I.rm, st.good⟩ ⟨I.nm, F', I.vr.other hn, I.rm, st.good⟩
theorem b_name {x p d} (hx : sc.lookup x = some .local) (hn : ρ x = none) : Bnd C k sc (.Name x p) d ρ (ups ρ x d) := fun X g s v E Q I hv hL h =>
  wpAny_assign_Name (store_step I hx hn hv hL fun s' => h _ s')
theorem b_pair {x y p p' kk q a b} (hx : sc.lookup x = some .local) (hn : ρ x = none) (hy : sc.lookup y = some .local) (hny : ρ y = none) (hxy : (y == x) = false) :
    Bnd C k sc (.Tuple [.Name x p, .Name y p'] kk q) (.tuple [a, b]) ρ (ups (ups ρ x a) y b) := fun X g s v E Q I hv hL h => by
  refine Classical.byContradiction fun ng0 => ?_
  obtain ⟨ta, vs, n, rfl, hg, hr⟩ := hv
  obtain ⟨va, vb, rfl, ha, hb⟩ := RL.two hr
  refine ng0 ?_
  refine assign_Tuple_tuple I.rm.handled (R.isTup I.gd.stays hg) rfl rfl fun h' he => ?_
  have st0 : Step C g s g { s with heap := h' } := Step.grew (h := h') (tk := s.toks) I.gd fun a o e => he a o (Nat.ne_of_lt (Heap.lt_size e)) e
  show wpAny _ _ (assignInOrder [assign (.Name x _) X.env, assign (.Name y _) X.env] [va, vb]) Q E _
  unfold assignInOrder
  refine wpAny_bind (wpAny_holding (wpAny_assign_Name (store_step (I.st st0) hx hn ha hL fun s1 t1 I1 J1 => ?_)))
  unfold assignInOrder
  refine wpAny_bind (wpAny_holding (wpAny_assign_Name (store_step I1 hy (by unfold ups; rw [if_neg (fun q => by rw [q, beq_self_eq_true] at hxy; cases hxy)]; exact hny) hb hL fun s2 t2 I2 J2 => ?_)))
  exact wpAny_pure (h _ s2 ((st0.toB _).trans (t1.trans t2)) I2 ⟨J2.nm, J2.fr, (I.vr.other hn).other hny, J2.rm, J2.gd⟩)
end Mine
end
section
open PySem PySem.W PyProof.Rows
namespace Mine
variable {C : Mod} {k : Nat} {sc : Names} {ρ ρ' : Ct} {X : Cx C} {g g' : Frz} {s s' : Shared} {A : Around} {E : Value → Shared → Prop} {env : Env} {m : Str → Option Value} {I acc : Addr} {ys : List Value} {yn : Nat}
theorem compTurn_wp {elt : Expr} {gens : List Comprehension} {scope : Scope} {pos : Pos} {depth : Nat} {it acc : Value} {t iter : Expr} {ifs : List Expr} (h : gens[depth]? = some ⟨t, iter, ifs, 0⟩) {Q : Fin → Shared → Prop}
    (hw : wpC C A (pyNext it) (fun r s₁ => match r with
      | none => Q (.done .next) s₁
      | some v => wpC C A (letOwnedTupleGo t it v) (fun _ s₂ => wpC C A (assign t env v) (fun _ s₃ =>
          wpC C A (forIn ifs true fun c r => if r = true then do let ok ← isTrue c env (eval c env); pure (ForInStep.yield ok) else pure (ForInStep.yield r)) (fun ok s₄ =>
            if ok = true then (match gens[depth + 1]? with
              | none => wpC C A (eval elt env) (fun x s₅ => wpC C A (call (.builtin "list.append") [acc, x]) (fun _ s₆ => Q (.again (.compLoop (.ListComp elt gens scope pos) depth it acc env)) s₆) E s₅) E s₄
              | some g' => g'.is_async = 0 ∧ isSet g'.iter = false ∧ wpC C A (eval g'.iter env) (fun x s₅ => wpC C A (pyIter x) (fun it' s₆ =>
                  wpC C A (runOwn (.compStart (.ListComp elt gens scope pos) (depth + 1) it' acc env) env) (fun _ s₇ => Q (.again (.compLoop (.ListComp elt gens scope pos) depth it acc env)) s₇) E s₆) E s₅) E s₄)
            else Q (.again (.compLoop (.ListComp elt gens scope pos) depth it acc env)) s₄) E s₃) E s₂) E s₁) E s) :
    wpC C A (compTurn (.ListComp elt gens scope pos) depth it acc env) Q E s := by
  have hf : ∀ (g' : Comprehension) (x : Value), isSet g'.iter = false → foldedSetIterable g'.iter env x = pure x := fun g' x hs => fold_plain hs env x
  unfold compTurn
  simp only [h, bne_self_eq_false, Bool.false_eq_true, if_false]
  refine wpC_bind (wpC_standAt (wpC_bind (wpC_mono hw (fun r s₁ h₁ => ?_) fun _ _ x => x)))
  cases r with
  | none => exact wpC_pure h₁
  | some v =>
    refine wpC_bind (wpC_mono h₁ (fun _ s₂ h₂ => wpC_bind (wpC_mono h₂ (fun _ s₃ h₃ => wpC_bind (wpC_mono h₃ (fun ok s₄ h₄ => ?_) fun _ _ x => x)) fun _ _ x => x)) fun _ _ x => x)
    cases ok with
    | false => exact wpC_pure h₄
    | true =>
      simp only [if_true] at h₄ ⊢
      cases hg : gens[depth + 1]? with
      | none =>
        rw [hg] at h₄
        exact wpC_bind (wpC_bind (wpC_mono h₄ (fun x s₅ h₅ => wpC_bind (wpC_mono h₅ (fun _ s₆ h₆ => wpC_pure (wpC_pure h₆)) fun _ _ x => x)) fun _ _ x => x))
      | some g' =>
        rw [hg] at h₄
        obtain ⟨ha, hs, h₄⟩ := h₄
        have ha' : ¬ ((g'.is_async != 0) = true) := by simp [ha]
        refine wpC_bind (wpC_mono h₄ (fun x s₅ h₅ => wpC_bind (wpC_standAt ?_)) fun _ _ x => x)
        simp only [ha']
        rw [hf g' x hs]
        refine wpC_bind (wpC_pure (wpC_bind (wpC_holding (wpC_mono h₅ (fun it' s₆ h₆ => wpC_bind (wpC_mono h₆ (fun _ s₇ h₇ => wpC_pure h₇) fun _ _ x => x)) fun _ _ x => x))))

theorem compStart_wp {elt : Expr} {gens : List Comprehension} {scope : Scope} {pos : Pos} {depth : Nat} {it acc : Value} {t iter : Expr} {ifs : List Expr} (h : gens[depth]? = some ⟨t, iter, ifs, 0⟩)
    {R : Result → Shared → Prop} (h0 : codeC C A (.compLoop (.ListComp elt gens scope pos) depth it acc env) R s)
    (h1 : ∀ E', wpC C A (pyIter it) (fun it' s' => codeC C A (.compLoop (.ListComp elt gens scope pos) depth it' acc env) R s') E' s) :
    codeC C A (.compStart (.ListComp elt gens scope pos) depth it acc env) R s := by
  have hc : (clausesOf (.ListComp elt gens scope pos))[depth]? = some ⟨t, iter, ifs, 0⟩ := h
  refine codeC_of_tree ?_
  show wpC _ _ ((compStart (.ListComp elt gens scope pos) depth it acc env).onRaise (fun x => do noteFrame x env; standAt theWindowsPlace)) _ _ s
  refine wpC_notedAt ?_
  unfold compStart
  simp only [hc, Option.elim_some, bne_self_eq_false, Bool.false_eq_true, if_false]
  refine wpC_bind (wpC_of <| wpAny_askSetting ?_)
  split
  · exact wpC_pure ⟨rfl, rfl, h0⟩
  · exact wpC_bind (wpC_rule (wpC_bind (wpC_standAt (wpC_bind (wpC_mono (h1 _) (fun it' s' h' => wpC_pure ⟨rfl, rfl, h'⟩) fun _ _ x => x)))))


noncomputable abbrev Cx.xs (X : Cx C) (I acc : Addr) : Addr → Prop := fun a => a = acc ∨ a = I ∨ a = X.env.locals
noncomputable def Lp (C : Mod) (k : Nat) (elt : Expr) (gens : List Comprehension) (depth : Nat) (sc : Names) (ρ : Ct) (items : List D) (i : Nat) (out : List D) : Prop := ∀ scope pos (X : Cx C) g s I acc ys yn (R' : Result → Shared → Prop),
  On k sc ρ X g s → Itr C g I items i s.heap → AccAt C X.env I acc g s ys yn → ys.length + out.length ≤ lim →
  (∀ m' g' s' yn' vs, StepB C (X.xs I acc) g s g' s' → On k sc ρ (X.at m') g' s' → s'.heap.get? acc = some (listObj (ys ++ vs) yn') → g' acc = none → g' X.env.locals = none → RL g' out vs → R' (.ok .next) s') →
  codeC C X.A (.compLoop (.ListComp elt gens scope pos) depth (.ref I) (.ref acc) X.env) R' s
noncomputable def One (C : Mod) (k : Nat) (elt : Expr) (gens : List Comprehension) (depth : Nat) (t : Expr) (ifs : List Expr) (sc : Names) (ρ : Ct) (d : D) (l : List D) : Prop := ∀ scope pos (X : Cx C) g s v I acc ys yn E (Q : Fin → Shared → Prop),
  On k sc ρ X g s → AccAt C X.env I acc g s ys yn → R g d v → ys.length + l.length ≤ lim →
  (∀ m' g' s' yn' vs, StepB C (X.xs I acc) g s g' s' → On k sc ρ (X.at m') g' s' → AccAt C X.env I acc g' s' (ys ++ vs) yn' → (∀ o, s.heap.get? I = some o → s'.heap.get? I = some o) → RL g' l vs →
    Q (.again (.compLoop (.ListComp elt gens scope pos) depth (.ref I) (.ref acc) X.env)) s') →
  wpC C X.A (letOwnedTupleGo t (.ref I) v) (fun _ s₂ => wpC C X.A (assign t X.env v) (fun _ s₃ =>
          wpC C X.A (forIn ifs true fun c r => if r = true then do let ok ← isTrue c X.env (eval c X.env); pure (ForInStep.yield ok) else pure (ForInStep.yield r)) (fun ok s₄ =>
            if ok = true then (match gens[depth + 1]? with
              | none => wpC C X.A (eval elt X.env) (fun x s₅ => wpC C X.A (call (.builtin "list.append") [.ref acc, x]) (fun _ s₆ => Q (.again (.compLoop (.ListComp elt gens scope pos) depth (.ref I) (.ref acc) X.env)) s₆) E s₅) E s₄
              | some g' => g'.is_async = 0 ∧ isSet g'.iter = false ∧ wpC C X.A (eval g'.iter X.env) (fun x s₅ => wpC C X.A (pyIter x) (fun it' s₆ =>
                  wpC C X.A (runOwn (.compStart (.ListComp elt gens scope pos) (depth + 1) it' (.ref acc) X.env) X.env) (fun _ s₇ => Q (.again (.compLoop (.ListComp elt gens scope pos) depth (.ref I) (.ref acc) X.env)) s₇) E s₆) E s₅) E s₄)
            else Q (.again (.compLoop (.ListComp elt gens scope pos) depth (.ref I) (.ref acc) X.env)) s₄) E s₃) E s₂) E s
theorem one_start {t : Expr} {ifs : List Expr} {d : D} {b : Bool} {v : Value} (hb : Bnd C k sc t d ρ ρ') (ht : Tst C k sc ρ' ifs b) (I0 : On k sc ρ X g s) (a : AccAt C X.env I acc g s ys yn) (hv : R g d v) {P : Bool → Shared → Prop}
    (q : ∀ m' g' s', StepB C (X.xs I acc) g s g' s' → On k sc ρ' (X.at m') g' s' → On k sc ρ (X.at m') g' s' → AccAt C X.env I acc g' s' ys yn → (∀ o, s.heap.get? I = some o → s'.heap.get? I = some o) → P b s') :
    wpC C X.A (letOwnedTupleGo t (.ref I) v) (fun _ s₂ => wpC C X.A (assign t X.env v) (fun _ s₃ =>
      wpC C X.A (forIn ifs true fun c r => if r = true then do let ok ← isTrue c X.env (eval c X.env); pure (ForInStep.yield ok) else pure (ForInStep.yield r)) P E s₃) E s₂) E s := by
  refine wpC_of <| letOwned_sound a.lv (wpC_of <| hb X g s v E _ I0 hv a.gL fun m' s1 t1 I1 J1 => ht (X.at m') g s1 I1 E _ fun okv g2 s2 t2 hok => ?_)
  subst hok
  have n1 := live_ne_ns a.lv I0.fr
  have hI : ∀ o, s.heap.get? I = some o → s1.heap.get? I = some o := fun o e => t1.keep I o a.tI n1 e
  have a1 : AccAt C X.env I acc g s1 ys yn := ⟨t1.keep acc _ a.ta (list_ne_ns a.at_ I0.fr) a.at_, a.ga, a.ta, a.gI, a.tI, a.gL, a.lv.keep hI⟩
  exact q m' g2 s2 ((t1.mono fun a q => .inr (.inr q)).trans (t2.toB _)) (I1.st t2) (J1.st t2) (AccAt.st (X := X.at m') a1 J1 t2) fun o e => t2.keep I o a.tI (hI o e)
variable {elt t : Expr} {gens : List Comprehension} {depth : Nat} {ifs : List Expr} {d : D}
theorem one_skip (hb : Bnd C k sc t d ρ ρ') (ht : Tst C k sc ρ' ifs false) : One C k elt gens depth t ifs sc ρ d [] := fun scope pos X g s v I acc ys yn E Q I0 a hv hl q =>
  one_start hb ht I0 a hv fun m' g' s' st I1 J1 a1 hI => by
    show Q _ s'
    exact q m' g' s' yn [] st J1 (by rw [List.append_nil]; exact a1) hI RL.nil
theorem one_elt {dv : D} (hb : Bnd C k sc t d ρ ρ') (ht : Tst C k sc ρ' ifs true) (he : Ev C k sc ρ' elt dv) (hn : gens[depth + 1]? = none) : One C k elt gens depth t ifs sc ρ d [dv] := fun scope pos X g s v I acc ys yn E Q I0 a hv hl q =>
  one_start hb ht I0 a hv fun m' g3 s3 st I1 J1 a3 hI3 => by
    rw [if_pos rfl, hn]
    show wpC C X.A (eval elt X.env) _ E s3
    refine he (X.at m') g3 s3 I1 E _ fun w g4 s4 t4 hw => ?_
    have a4 : AccAt C X.env I acc g4 s4 ys yn := AccAt.st (X := X.at m') a3 J1 t4
    have J4 := J1.st t4
    refine wpC_of <| wpAny_list_append_plain (items := ys.toArray) ⟨yn, a4.at_⟩ (fun h5 hp hs => ?_) (by rw [List.size_toArray, sizeLine_is]; exact Nat.le_trans (Nat.le_succ _) hl)
    obtain ⟨n5, h5a⟩ := hp
    have h5b : h5.get? acc = some (listObj (ys ++ [w]) n5) := by rw [h5a, List.push_toArray]
    have hk : ∀ b o, b ≠ acc → s4.heap.get? b = some o → h5.get? b = some o := fun b o n e => hs.extBut b o n e
    have t5 : StepB C (X.xs I acc) g4 s4 g4 { s4 with heap := h5 } :=
      (StepB.upd (X := fun a => a = acc) (tk := s4.toks) t4.good (fun z q => by subst q; exact ⟨a4.ga, a4.ta⟩) hk).mono fun a q => .inl q
    have na := Ne.symm a4.nl
    refine q m' g4 _ n5 [w] ((st.trans (t4.toB _)).trans t5) ⟨J4.nm, J4.fr.keepA hk a4.at_ (list_ne_ns a4.at_ J4.fr) (fun _ q => by cases q), J4.vr, J4.rm, t5.good⟩ ⟨h5b, a4.ga, a4.ta, a4.gI, a4.tI, a4.gL, a4.lv.keep fun o => hk I o na⟩
      (fun o e => hk I o na (t4.keep I o a.tI (hI3 o e))) (RL.cons hw RL.nil)
end Mine
end
section
open PySem PySem.W PyProof.Rows
namespace Mine
variable {C : Mod} {k : Nat} {sc : Names} {ρ ρ' : Ct} {X : Cx C} {g g' : Frz} {s s' : Shared} {I acc : Addr} {ys : List Value} {yn : Nat} {elt t it it' t' : Expr} {gens : List Comprehension} {depth : Nat} {ifs ifs' : List Expr} {d dv : D} {items items' l out : List D}
theorem Good.new_tab (G : Good C g s) : s.heap.objs.size ∉ C.tabs := fun q => by
  obtain ⟨o', ho'⟩ := C.tabIn G.tab _ q
  exact absurd (Heap.lt_size ho') (Nat.lt_irrefl _)
noncomputable def Al (C : Mod) (k : Nat) (elt : Expr) (gens : List Comprehension) (depth : Nat) (t : Expr) (ifs : List Expr) (sc : Names) (ρ : Ct) : List D → List (List D) → Prop
  | [], [] => True
  | d :: ds, l :: ls => One C k elt gens depth t ifs sc ρ d l ∧ Al C k elt gens depth t ifs sc ρ ds ls
  | _, _ => False
theorem lp_of (hg : gens[depth]? = some ⟨t, it, ifs, 0⟩) : ∀ (j i : Nat) (ls : List (List D)), items.length = i + j → Al C k elt gens depth t ifs sc ρ (items.drop i) ls → Lp C k elt gens depth sc ρ items i ls.flatten
  | 0, i, ls, hj, ho => fun scope pos X g s I acc ys yn R' I0 hI a hl post => by
    rw [List.drop_eq_nil_of_le (i := i) (Nat.le_of_eq hj)] at ho
    match ls, ho with
    | [], _ =>
    have hj' : i = items.length := hj.symm
    subst hj'
    refine codeC_of_tree ?_
    show wpC _ X.A ((compTurn (.ListComp elt gens scope pos) depth (.ref I) (.ref acc) X.env).onRaise (fun x => do noteFrame x X.env; theTreesLotGoes x)) _ _ s
    refine wpC_noted (compTurn_wp hg (wpC_of <| hI.done I0.rm.handled fun h' tk hk => ?_))
    have st : StepB C (fun a => a = I) g s g { s with heap := h', toks := tk } := StepB.upd I0.gd (fun z q => q ▸ ⟨a.gI, a.tI⟩) hk
    refine Classical.byContradiction fun ng0 => ?_
    obtain ⟨o, T, fs, ho, hc, hd, _⟩ := id a.lv
    refine ng0 ?_
    refine post X.m g _ yn [] (st.mono fun a q => .inr (.inl q)) ⟨I0.nm, I0.fr.keepA hk ho (live_ne_ns a.lv I0.fr) (fun v q => by rw [hd] at q; cases q), I0.vr, I0.rm, st.good⟩ ?_ a.ga a.gL RL.nil
    rw [List.append_nil]; exact hk _ _ a.nl a.at_
  | j + 1, i, ls, hj, ho => fun scope pos X g s I acc ys yn R' I0 hI a hl post => by
    have hlt : i < items.length := hj ▸ Nat.lt_add_of_pos_right (Nat.succ_pos j)
    rw [List.drop_eq_getElem_cons hlt] at ho
    match ls, ho with
    | l :: ls, ho =>
    rw [List.flatten_cons] at hl post
    rw [List.length_append] at hl
    refine codeC_of_tree ?_
    show wpC _ X.A ((compTurn (.ListComp elt gens scope pos) depth (.ref I) (.ref acc) X.env).onRaise (fun x => do noteFrame x X.env; theTreesLotGoes x)) _ _ s
    refine wpC_noted (compTurn_wp hg (wpC_of <| hI.next I0.rm.handled (List.getElem?_eq_getElem hlt) fun v h' tk hv hI' hk => ?_))
    have st1 : StepB C (fun a => a = I) g s g { s with heap := h', toks := tk } := StepB.upd I0.gd (fun z q => q ▸ ⟨a.gI, a.tI⟩) hk
    refine Classical.byContradiction fun ng0 => ?_
    obtain ⟨o, T, fs, hio, hc, hd, _⟩ := id a.lv
    have I1 : On k sc ρ X g { s with heap := h', toks := tk } := ⟨I0.nm, I0.fr.keepA hk hio (live_ne_ns a.lv I0.fr) (fun v q => by rw [hd] at q; cases q), I0.vr, I0.rm, st1.good⟩
    have a1 : AccAt C X.env I acc g { s with heap := h', toks := tk } ys yn := ⟨hk _ _ a.nl a.at_, a.ga, a.ta, a.gI, a.tI, a.gL, hI'.live⟩
    refine ng0 ?_
    refine ho.1 scope pos X g _ v I acc ys yn _ (fun fin s' => match fin with | .done f => R' (.ok f) s' | .again c' => c'.quiet = true ∧ calm c' = true ∧ codeC C X.A c' R' s') I1 a1 hv (Nat.le_trans (Nat.le_add_right _ _) (Nat.add_assoc _ _ _ ▸ hl)) fun m' g4 s4 yn4 vs st4 I4 a4 hI4 hr4 => ⟨rfl, rfl, ?_⟩
    refine lp_of hg j (i + 1) ls (by rw [hj]; exact (Nat.add_right_comm i j 1).trans (Nat.add_assoc _ _ _ ▸ rfl)) ho.2 scope pos (X.at m') g4 s4 I acc (ys ++ vs) yn4 R' I4 (hI'.mono st4.grow st1.good.stays st4.good.stays hI4) a4
      (by rw [List.length_append, hr4.length, Nat.add_assoc]; exact hl) fun m5 g5 s5 yn5 ws st5 I5 h5 ga5 gL5 hr5 => ?_
    exact post m5 g5 s5 yn5 (vs ++ ws) (((st1.mono fun a q => .inr (.inl q)).trans st4).trans st5) I5 (by rw [← List.append_assoc]; exact h5) ga5 gL5 ((hr4.mono st5.grow).append hr5)
theorem al_ix {α : Type} {gi : α → D} {F : α → List D} : ∀ {l : List α}, (∀ a ∈ l, One C k elt gens depth t ifs sc ρ (gi a) (F a)) → Al C k elt gens depth t ifs sc ρ (l.map gi) (l.map F)
  | [], _ => trivial
  | a :: l, h => ⟨h a (.head _), al_ix fun b hb => h b (.tail _ hb)⟩
theorem lp_ix {α : Type} {gi : α → D} {F : α → List D} {l : List α} (hg : gens[depth]? = some ⟨t, it, ifs, 0⟩) (h : ∀ a ∈ l, One C k elt gens depth t ifs sc ρ (gi a) (F a)) : Lp C k elt gens depth sc ρ (l.map gi) 0 (l.map F).flatten :=
  lp_of hg (l.map gi).length 0 _ (Nat.zero_add _).symm (al_ix h)
theorem lp_map {α : Type} {gi G : α → D} {l : List α} (hg : gens[depth]? = some ⟨t, it, ifs, 0⟩) (h : ∀ a ∈ l, One C k elt gens depth t ifs sc ρ (gi a) [G a]) : Lp C k elt gens depth sc ρ (l.map gi) 0 (l.map G) := by
  have : (l.map fun a => [G a]).flatten = l.map G := by rw [← List.flatMap_def]; exact List.map_eq_flatMap.symm
  rw [← this]; exact lp_ix hg h
theorem one_nest (hb : Bnd C k sc t d ρ ρ') (ht : Tst C k sc ρ' ifs true) (hn : gens[depth + 1]? = some ⟨t', it', ifs', 0⟩) (hset : isSet it' = false) (he : Ev C k sc ρ' it' dv) (hi : Itb dv items')
    (hl : Lp C k elt gens (depth + 1) sc ρ' items' 0 l) (hsub : ∀ y e, ρ y = some e → ρ' y = some e) : One C k elt gens depth t ifs sc ρ d l := fun scope pos X g s v I acc ys yn E Q I0 a hv hlen q =>
  one_start hb ht I0 a hv fun m' g3 s3 st I1 J1 a3 hI3 => by
    rw [if_pos rfl, hn]
    refine ⟨rfl, hset, ?_⟩
    show wpC C X.A (eval it' X.env) _ E s3
    refine he (X.at m') g3 s3 I1 E _ fun w g4 s4 t4 hw => ?_
    have a4 : AccAt C X.env I acc g4 s4 ys yn := AccAt.st (X := X.at m') a3 J1 t4
    refine wpC_of <| hi _ _ _ _ _ _ _ t4.good hw fun o tk hfr hI5 => ?_
    have t5 : Step C g4 s4 g4 { s4 with heap := s4.heap.push o, toks := tk } := Step.grew t4.good fun a x e => Heap.get?_push_of_some o e
    have I5 := (I1.st t4).st t5
    have a5 : AccAt C X.env I acc g4 { s4 with heap := s4.heap.push o, toks := tk } ys yn := AccAt.st (X := X.at m') a4 (J1.st t4) t5
    have b5 : AccAt C X.env s4.heap.objs.size acc g4 { s4 with heap := s4.heap.push o, toks := tk } ys yn := ⟨a5.at_, a5.ga, a5.ta, t4.good.new, t4.good.new_tab, a5.gL, hI5.live⟩
    obtain ⟨oI, hoI⟩ := live_get a4.lv
    have nI : ¬ (I = acc ∨ I = s4.heap.objs.size ∨ I = X.env.locals) := by
      rintro (q | q | q)
      · exact a4.nl q.symm
      · exact absurd (Heap.lt_size hoI) (by rw [← q]; exact Nat.lt_irrefl _)
      · exact live_ne_ns a4.lv (J1.st t4).fr q
    have fin : ∀ m6 g6 s6 yn6 vs, StepB C ((X.at m').xs s4.heap.objs.size acc) g4 { s4 with heap := s4.heap.push o, toks := tk } g6 s6 → On k sc ρ' ((X.at m').at m6) g6 s6 → s6.heap.get? acc = some (listObj (ys ++ vs) yn6) → g6 acc = none → g6 X.env.locals = none → RL g6 l vs →
        Q (.again (.compLoop (.ListComp elt gens scope pos) depth (.ref I) (.ref acc) X.env)) s6 := fun m6 g6 s6 yn6 vs st6 I6 h6 ga6 gL6 hr6 => by
      have hI5' : ∀ o', s4.heap.get? I = some o' → s6.heap.get? I = some o' := fun o' e => st6.keep I o' a.tI nI (t5.keep I o' a.tI e)
      have st56 : StepB C (X.xs I acc) g4 s4 g6 s6 := by
        have z := (t5.toB ((X.at m').xs s4.heap.objs.size acc)).trans st6
        have key : ∀ b o', s4.heap.get? b = some o' → ¬ X.xs I acc b → ¬ (X.at m').xs s4.heap.objs.size acc b := fun b o' e n q => by
          rcases q with q | q | q
          · exact n (.inl q)
          · exact absurd (Heap.lt_size e) (by rw [q]; exact Nat.lt_irrefl _)
          · exact n (.inr (.inr q))
        exact ⟨z.same, z.grow, fun b o' n e => z.fresh b o' (key b o' e n) e, fun b o' n' n e => z.keep b o' n' (key b o' e n) e, z.good⟩
      exact q m6 g6 s6 yn6 vs ((st.trans (t4.toB _)).trans st56) ⟨I6.nm, I6.fr, fun y e he => I6.vr y e (hsub y e he), I6.rm, I6.gd⟩
        ⟨h6, ga6, a.ta, (st6.fresh I _ nI (t5.keep I _ a.tI hoI)).trans a4.gI, a.tI, gL6, a4.lv.keep hI5'⟩ (fun o e => hI5' o (t4.keep I o a.tI (hI3 o e))) hr6
    have loop : ∀ (RR : Result → Shared → Prop), (∀ s6, Q (.again (.compLoop (.ListComp elt gens scope pos) depth (.ref I) (.ref acc) X.env)) s6 → RR (.ok .next) s6) →
        codeC C X.A (.compLoop (.ListComp elt gens scope pos) (depth + 1) (.ref s4.heap.objs.size) (.ref acc) X.env) RR { s4 with heap := s4.heap.push o, toks := tk } := fun RR hRR =>
      hl scope pos (X.at m') g4 _ s4.heap.objs.size acc ys yn RR I5 hI5 b5 hlen fun m6 g6 s6 yn6 vs st6 I6 h6 ga6 gL6 hr6 => hRR _ (fin m6 g6 s6 yn6 vs st6 I6 h6 ga6 gL6 hr6)
    refine wpC_runOwn ?_
    show codeC C X.A _ _ _
    exact compStart_wp hn (loop _ fun s6 hq => hq) fun E' => wpC_of <| hI5.self I0.rm.handled (loop _ fun s6 hq => hq)
end Mine
end
section
open PySem PySem.W PyProof.Rows
namespace Mine
variable {C : Mod} {k : Nat} {sc : Names} {ρ ρ' : Ct} {X : Cx C} {g g' : Frz} {s s' : Shared} {A : Around} {E : Value → Shared → Prop} {env : Env} {m : Str → Option Value}
theorem Good.freeze {a : Addr} {o : Obj} (G : Good C g s) (hg : g a = Option.none) (ho : s.heap.get? a = some o) (ht : a ∉ C.tabs) : Good C (g.put a o) s :=
  ⟨fun b x e => by
    unfold Frz.put at e
    split at e
    · rename_i q; cases e; rw [q]; exact ho
    · exact G.stays b x e, C.mono (Frz.le_put hg) G.base, C.tabKeep (Frz.le_put hg) (fun _ _ => rfl) G.tab, fun b hb => by
    unfold Frz.put
    rw [if_neg (fun q => by subst q; exact ht hb)]; exact G.apart b hb⟩
theorem StepB.freeze {X : Addr → Prop} {g' : Frz} {s' : Shared} {a : Addr} {o : Obj} (x : StepB C X g s g' s') (hg : g' a = none) (ho : s'.heap.get? a = some o) (ht : a ∉ C.tabs) (hs : X a ∨ s.heap.get? a = none) :
    StepB C X g s (g'.put a o) s' :=
  ⟨x.same, Frz.le_trans x.grow (Frz.le_put hg), fun b y n e => by
    unfold Frz.put
    rw [if_neg (fun q => by
      subst q
      rcases hs with hs | hs
      · exact n hs
      · rw [hs] at e; cases e)]
    exact x.fresh b y n e, x.keep, x.good.freeze hg ho ht⟩

noncomputable def clos (env : Env) : Names → List (Str × Addr) → List (Str × Addr)
  | [], acc => acc
  | p :: r, acc => clos env r (if p.2 == .free then (p.1, (env.cells.lookup p.1).getD 0) :: acc else acc)

theorem closureFor_clos {scope : Scope} (h : ∀ p ∈ scope.names, p.2 = .free → (env.cells.lookup p.1).isSome = true) : closureFor scope env = pure (clos env scope.names []) := by
  have key : ∀ (names : Names) (acc : List (Str × Addr)), (∀ p ∈ names, p.2 = .free → (env.cells.lookup p.1).isSome = true) →
      (forIn names acc (fun x r => match x with | (name, kind) => if (kind == NameKind.free) = true then do let a ← cellOf env name; pure (ForInStep.yield ((name, a) :: r)) else pure (ForInStep.yield r)) : Sem (List (Str × Addr))) = pure (clos env names acc) := by
    intro names
    induction names with
    | nil => intro acc _; rfl
    | cons p r ih =>
      intro acc hp
      obtain ⟨nm, kd⟩ := p
      rw [List.forIn_cons]
      unfold clos
      have ihr := ih (if (kd == .free) = true then (nm, (env.cells.lookup nm).getD 0) :: acc else acc) fun q hq => hp q (List.mem_cons_of_mem _ hq)
      show ((if (kd == NameKind.free) = true then do let a ← cellOf env nm; pure (ForInStep.yield ((nm, a) :: acc)) else pure (ForInStep.yield acc) : Sem (ForInStep (List (Str × Addr)))) >>= _) = pure (clos env r (if (kd == .free) = true then (nm, (env.cells.lookup nm).getD 0) :: acc else acc))
      cases hk : kd == NameKind.free with
      | false =>
        rw [hk] at ihr
        rw [if_neg (by decide)] at ihr ⊢
        rw [if_neg (by decide)]
        exact ihr
      | true =>
        rw [hk] at ihr
        obtain ⟨c, hc⟩ := Option.isSome_iff_exists.mp (hp (nm, kd) List.mem_cons_self (by simpa using hk))
        have e1 : cellOf env nm = pure c := by unfold cellOf; rw [hc]
        rw [if_pos rfl] at ihr ⊢
        rw [if_pos rfl, e1]
        rw [hc] at ihr ⊢
        exact ihr
  unfold closureFor
  show (forIn scope.names [] _ >>= fun r => pure r) = _
  rw [key scope.names [] h]; rfl

theorem clos_lookup {x : Str} : ∀ (names : Names) (acc : List (Str × Addr)) {c : Addr}, (clos env names acc).lookup x = some c →
    (∃ p ∈ names, p.1 = x ∧ p.2 = .free ∧ c = (env.cells.lookup x).getD 0) ∨ acc.lookup x = some c
  | [], acc, c, h => .inr h
  | p :: r, acc, c, h => by
    unfold clos at h
    rcases clos_lookup r _ h with ⟨q, hq, h1, h2, h3⟩ | h
    · exact .inl ⟨q, List.mem_cons_of_mem _ hq, h1, h2, h3⟩
    · split at h
      · rename_i hk
        rw [List.lookup_cons] at h
        cases hb : x == p.1 with
        | true =>
          rw [hb] at h; cases h
          have := beq_iff_eq.mp hb; subst this
          exact .inl ⟨p, List.mem_cons_self, rfl, by simpa using hk, rfl⟩
        | false => rw [hb] at h; exact .inr h
      · exact .inr h
theorem clos_has {x : Str} : ∀ (names : Names) (acc : List (Str × Addr)), ((∃ p ∈ names, p.1 = x ∧ p.2 = .free) ∨ (acc.lookup x).isSome = true) → ((clos env names acc).lookup x).isSome = true
  | [], acc, h => by
    rcases h with ⟨p, hp, _⟩ | h
    · cases hp
    · exact h
  | p :: r, acc, h => by
    unfold clos
    refine clos_has r _ ?_
    rcases h with ⟨q, hq, h1, h2⟩ | h
    · rcases List.mem_cons.mp hq with rfl | hq
      · right
        rw [h2]; subst h1
        simp [List.lookup_cons]
      · exact .inl ⟨q, hq, h1, h2⟩
    · right
      split
      · rw [List.lookup_cons]
        cases hb : x == p.1 with
        | true => rfl
        | false => exact h
      · exact h

theorem lookup_compNames (sc : Names) {x : Str} : ∀ inner : Names, (compNames sc inner).lookup x = (inner.lookup x).map fun k => if (k == .free && sc.lookup x == some .cell) = true then NameKind.cell else k
  | [] => rfl
  | (nm, kd) :: r => by
    have ih := lookup_compNames sc (x := x) r
    unfold compNames at ih ⊢
    rw [List.map_cons]
    show List.lookup x ((if (kd == NameKind.free && List.lookup nm sc == some NameKind.cell) = true then (nm, NameKind.cell) else (nm, kd)) :: _) = _
    cases hb : x == nm with
    | true =>
      have := beq_iff_eq.mp hb; subst this
      cases hc : (kd == NameKind.free && List.lookup x sc == some NameKind.cell) with
      | true => rw [if_pos rfl, List.lookup_cons, List.lookup_cons, hb]; simp only [Option.map_some]; rw [hc]; rfl
      | false => rw [if_neg (by decide), List.lookup_cons, List.lookup_cons, hb]; simp only [Option.map_some]; rw [hc]; rfl
    | false =>
      cases hc : (kd == NameKind.free && List.lookup nm sc == some NameKind.cell) with
      | true => rw [if_pos rfl, List.lookup_cons, List.lookup_cons, hb]; exact ih
      | false => rw [if_neg (by decide), List.lookup_cons, List.lookup_cons, hb]; exact ih

theorem Step.alive {g' : Frz} {s' : Shared} (h : Step C g s g' s') (G : Good C g s) {a : Addr} {o : Obj} (e : s.heap.get? a = some o) : ∃ o', s'.heap.get? a = some o' := by
  by_cases q : a ∈ C.tabs
  · exact C.tabIn h.good.tab a q
  · exact ⟨o, h.keep a o q e⟩

noncomputable def inn (inner : Names) (ρ : Ct) : Ct := fun x => if inner.lookup x = some .free then ρ x else none
theorem e_comp {elt t it : Expr} {ifs : List Expr} {rest : List Comprehension} {scope : Scope} {pos : Pos} {d1 : D} {items out : List D} (hit : Ev C k sc ρ it d1) (hi : Itb d1 items)
    (hl : Lp C k elt (⟨t, it, ifs, 0⟩ :: rest) 0 (compNames sc scope.names) (inn scope.names ρ) items 0 out) (hlen : out.length ≤ lim) (hok : compOk sc scope = true) (hset : isSet it = false) (h00 : (scope.names.lookup (".0" : Str)).isSome = true) :
    Ev C k sc ρ (.ListComp elt (⟨t, it, ifs, 0⟩ :: rest) scope pos) (.list out) := fun X g s I0 E Q q => by
  unfold compOk at hok
  rw [Bool.and_eq_true, List.all_eq_true] at hok
  have hkind : scope.kind = .function := by simpa using hok.1
  have hall := hok.2
  have G := I0.gd
  have outer : ∀ x, scope.names.lookup x = some .free → ∃ c, X.env.cells.lookup x = some c ∧ s.heap.IsCell c (X.m x) ∧ c ∉ C.tabs := fun x hx => by
    have := hall (x, .free) (mem_of_lookup hx)
    simp only [Bool.and_eq_true, Bool.or_eq_true, beq_iff_eq] at this
    exact I0.fr.cell x (by unfold Env.kindOf; rw [I0.nm]; exact this.2)
  have hfree : ∀ p ∈ scope.names, p.2 = .free → (X.env.cells.lookup p.1).isSome = true := fun p hp q => by
    have := hall p hp
    rw [q] at this
    simp only [Bool.and_eq_true, Bool.or_eq_true, beq_iff_eq] at this
    refine Classical.byContradiction fun ng0 => ?_
    obtain ⟨c, e, _⟩ := outer p.1 this.1
    refine ng0 ?_
    rw [e]; rfl
  have hnames : ∀ x ∈ scope.names, x.2 = .local → scope.names.lookup x.1 = some .local := fun p hp q => by
    have := hall p hp
    rw [q] at this; simpa using this
  have hcell : ∀ x ∈ scope.names, x.2 ≠ .cell := fun p hp q => by
    have := hall p hp
    rw [q] at this; simp at this
  have hfold : ∀ x, foldedSetIterable it X.env x = pure x := fold_plain hset X.env
  have hrel : (relabel scope X.env).names = compNames sc scope.names := by
    unfold relabel compNames
    simp only
    apply List.map_congr_left
    rintro ⟨nm, kd⟩ _
    simp only [I0.fr.fn, Env.kindOf, I0.nm]
    simp
  rw [eval_ListComp]
  show wpC _ _ (comprehension (.ListComp elt (⟨t, it, ifs, 0⟩ :: rest) scope pos) scope X.env _ (newList []) false (eval it X.env)) Q E s
  refine wpC_comprehension_free rfl hfold (closureFor_clos hfree) hkind hnames ?_
  refine hit X g s I0 E _ fun v g1 s1 st1 hv1 => ?_
  refine wpC_of <| hi _ _ _ _ _ _ _ st1.good hv1 fun o tk hfr hI1 => ?_
  have st2 : Step C g1 s1 g1 { s1 with heap := s1.heap.push o, toks := tk } := Step.grew st1.good fun a x e => Heap.get?_push_of_some o e
  refine wpC_of <| wpAny_newList ?_ (Nat.zero_le _)
  have st3 : Step C g1 { s1 with heap := s1.heap.push o, toks := tk } g1 { s1 with heap := (s1.heap.push o).push (listObj [] 0), toks := tk } := Step.grew st2.good fun a x e => Heap.get?_push_of_some _ e
  refine wpC_of <| wpAny_newFunctionEnv hcell (by intro y hy; cases hy) (fun h4 hns4 hsb4 => ?_) hkind
  have z1 : (s1.heap.push o).objs.size = s1.heap.objs.size + 1 := Heap.size_push ..
  have z2 : ((s1.heap.push o).push (listObj [] 0)).objs.size = s1.heap.objs.size + 1 + 1 := by rw [Heap.size_push, z1]
  have hk4 : ∀ b x, ((s1.heap.push o).push (listObj [] 0)).get? b = some x → h4.get? b = some x := fun b x e =>
    hsb4.extBut b x (Nat.ne_of_lt (Heap.lt_size e)) (Heap.get?_push_of_some _ e)
  have st4 : Step C g1 { s1 with heap := (s1.heap.push o).push (listObj [] 0), toks := tk } g1 { s1 with heap := h4, toks := tk + ([] : List (Str × Value)).length } := Step.grew (h := h4) st3.good hk4
  have stA := st1.trans (st2.trans (st3.trans st4))
  have gI : g1 s1.heap.objs.size = none := st1.good.new
  have ga : g1 (s1.heap.push o).objs.size = none := st2.good.new
  have gL : g1 ((s1.heap.push o).push (listObj [] 0)).objs.size = none := st3.good.new
  have tI : s1.heap.objs.size ∉ C.tabs := st1.good.new_tab
  have ta : (s1.heap.push o).objs.size ∉ C.tabs := st2.good.new_tab
  have tL : ((s1.heap.push o).push (listObj [] 0)).objs.size ∉ C.tabs := st3.good.new_tab
  have hI4 : Itr C g1 s1.heap.objs.size items 0 h4 := hI1.mono g1.le_refl st2.good.stays st4.good.stays fun x e => hk4 _ _ (Heap.get?_push_of_some _ e)
  have hacc4 : h4.get? (s1.heap.push o).objs.size = some (listObj [] 0) := hk4 _ _ (Heap.get?_push_size _ rfl)
  have fresh : ∀ a, s1.heap.objs.size ≤ a → s.heap.get? a = none := fun a ha => by
    cases e : s.heap.get? a with
    | none => rfl
    | some x =>
      obtain ⟨x', hx'⟩ := st1.alive G e
      exact absurd (Heap.lt_size hx') (Nat.not_lt.mpr ha)
  generalize hcenv : ({ newEnv scope ((s1.heap.push o).push (listObj [] 0)).objs.size X.env.globals (clos X.env scope.names []) X.env.qual none .none (some X.env) builtinsNs with scope := relabel scope X.env } : Env) = cenv
  have cL : cenv.locals = ((s1.heap.push o).push (listObj [] 0)).objs.size := by rw [← hcenv]; rfl
  have cS : cenv.scope.names = compNames sc scope.names := by rw [← hcenv]; exact hrel
  have cC : cenv.cells = clos X.env scope.names [] := by rw [← hcenv]; rfl
  have cK : ∀ x, cenv.kindOf x = some .cell ∨ cenv.kindOf x = some .free → scope.names.lookup x = some .free := fun x hx => by
    unfold Env.kindOf at hx
    rw [cS, lookup_compNames] at hx
    cases hq : scope.names.lookup x with
    | none => rw [hq] at hx; rcases hx with hx | hx <;> cases hx
    | some kd =>
      rw [hq] at hx
      have hm := hall (x, kd) (mem_of_lookup hq)
      cases kd with
      | free => rfl
      | _ => first | (rcases hx with hx | hx <;> cases hx; done) | cases hm
  have cU : ∀ {x c}, cenv.cells.lookup x = some c → X.env.cells.lookup x = some c := fun {x c} hx => by
    rw [cC] at hx
    rcases clos_lookup scope.names [] hx with ⟨p, hp, h1, h2, h3⟩ | h3
    · subst h1
      obtain ⟨c', hc'⟩ := Option.isSome_iff_exists.mp (hfree p hp h2)
      rw [hc'] at h3 ⊢; rw [h3]; rfl
    · cases h3
  have F4 : Frame C h4 cenv (fun x => if scope.names.lookup x = some .free then X.m x else none) := by
    refine ⟨by rw [← hcenv]; exact hkind, by rw [← hcenv]; exact I0.fr.glob, by rw [← hcenv]; exact I0.fr.blt, ⟨_, cL ▸ hns4, fun x hx => ?_⟩, fun x hx => ?_, cL ▸ tL, fun x y c h1 h2 => I0.fr.apart x y c (cU h1) (cU h2), fun v hv => by
      have := C.codeNo _ _ hv
      rw [cS, lookup_compNames] at this
      obtain ⟨kd, hkd⟩ := Option.isSome_iff_exists.mp h00
      rw [hkd] at this; cases this⟩
    · refine (if_neg fun hq => ?_).symm
      unfold Env.kindOf at hx
      rw [cS, lookup_compNames, hq] at hx
      have hx : (some (if (NameKind.free == .free && sc.lookup x == some .cell) = true then NameKind.cell else .free)) = some .local := hx
      split at hx <;> cases hx
    · have hf := cK x hx
      rw [if_pos hf]
      refine Classical.byContradiction fun ng0 => ?_
      obtain ⟨c, e1, ⟨oc, hoc, hdc⟩, e3⟩ := outer x hf
      obtain ⟨c', hc'⟩ := Option.isSome_iff_exists.mp (clos_has (env := X.env) scope.names [] (.inl ⟨_, mem_of_lookup hf, rfl, rfl⟩))
      have e4 : cenv.cells.lookup x = some c' := by rw [cC]; exact hc'
      have : c' = c := Option.some.inj ((cU e4).symm.trans e1)
      refine ng0 ?_
      exact ⟨c, this ▸ e4, ⟨oc, stA.keep _ _ e3 hoc, hdc⟩, e3⟩
  have I4 : On k (compNames sc scope.names) (inn scope.names ρ) (⟨cenv, fun x => if scope.names.lookup x = some .free then X.m x else none, X.A⟩ : Cx C) g1 { s1 with heap := h4, toks := tk + ([] : List (Str × Value)).length } := ⟨cS, F4, fun x d hx => by
      have hx : (if scope.names.lookup x = some .free then ρ x else none) = some d := hx
      by_cases h1 : scope.names.lookup x = some .free
      case neg => rw [if_neg h1] at hx; cases hx
      rw [if_pos h1] at hx
      refine Classical.byContradiction fun ng0 => ?_
      obtain ⟨w, hw, hR⟩ := I0.vr x d hx
      refine ng0 ?_
      exact ⟨w, (if_pos h1).trans hw, hR.mono stA.grow⟩, I0.rm, st4.good⟩
  have loop : codeC C X.A (.compLoop (.ListComp elt (⟨t, it, ifs, 0⟩ :: rest) scope pos) 0 (.ref s1.heap.objs.size) (.ref (s1.heap.push o).objs.size) cenv)
      (compPost C.M X.A E none Q (.ref (s1.heap.push o).objs.size) ((s1.heap.push o).push (listObj [] 0)).objs.size) { s1 with heap := h4, toks := tk + ([] : List (Str × Value)).length } := by
    refine hl scope pos _ g1 _ s1.heap.objs.size (s1.heap.push o).objs.size [] 0 _ I4 hI4 ⟨hacc4, ga, ta, gI, tI, cL ▸ gL, hI4.live⟩ ((Nat.zero_add _).symm ▸ hlen) ?_
    intro m5 g5 s5 yn5 vs st5 I5 hacc5 ga5 gL5 hl5
    refine Classical.byContradiction fun ng0 => ?_
    obtain ⟨ml5, hn5, _⟩ := I5.fr.ns
    have hn5 : s5.heap.Ns cenv.locals ml5 := hn5
    have gL5 : g5 cenv.locals = none := gL5
    have st5 : StepB C (fun a => a = (s1.heap.push o).objs.size ∨ a = s1.heap.objs.size ∨ a = cenv.locals) g1 { s1 with heap := h4, toks := tk + ([] : List (Str × Value)).length } g5 s5 := st5
    rw [cL] at hn5 st5 gL5
    refine ng0 ?_
    refine ⟨ml5, hn5, fun h6 hs6 => ?_⟩
    have st6 : StepB C (fun a => a = (s1.heap.push o).objs.size ∨ a = s1.heap.objs.size ∨ a = ((s1.heap.push o).push (listObj [] 0)).objs.size) g5 s5 g5 { s5 with heap := h6 } :=
      (StepB.upd (X := fun a => a = ((s1.heap.push o).push (listObj [] 0)).objs.size) (tk := s5.toks) st5.good (fun a q => q ▸ ⟨gL5, tL⟩) (fun a x n e => hs6.extBut a x n e)).mono fun a q => .inr (.inr q)
    have nacc : (s1.heap.push o).objs.size ≠ ((s1.heap.push o).push (listObj [] 0)).objs.size := by rw [z2, z1]; exact Nat.ne_of_lt (Nat.lt_succ_self _)
    have hacc6 : h6.get? (s1.heap.push o).objs.size = some (listObj vs yn5) := hs6.extBut _ _ nacc hacc5
    refine q _ _ _ (((stA.toB _).trans (st5.trans st6)).freeze (a := (s1.heap.push o).objs.size) (o := listObj vs yn5) ga5 hacc6 ta (.inl (.inl rfl)) |>.toStep fun a ha => fresh a ?_) ⟨_, vs, yn5, rfl, Frz.put_self .., hl5.mono (Frz.le_put ga5)⟩
    rcases ha with q | q | q
    · rw [q, z1]; exact Nat.le_add_right _ _
    · rw [q]; exact Nat.le_refl _
    · rw [q, z2]; exact Nat.le_add_right _ 2
  show codeC C X.A (.compStart (.ListComp elt (⟨t, it, ifs, 0⟩ :: rest) scope pos) 0 (.ref s1.heap.objs.size) (.ref (s1.heap.push o).objs.size) _) _ _
  exact compStart_wp rfl loop fun E' => wpC_of <| hI4.self I0.rm.handled loop
end Mine
end
section
open PySem PySem.W PyProof.Rows
namespace Mine
/-! statements: what a function's variables hold -/
inductive Slot where
  | frz (d : D)
  | own (xs : List D)
  | nest (pre : List (List D)) (cur : List D) (post : List (List D))
  | buf (b : List UInt8)
noncomputable abbrev Store := List (Str × Slot)
noncomputable def put : Store → Str → Slot → Store
  | [], x, sl => [(x, sl)]
  | (y, t) :: r, x, sl => if y = x then (x, sl) :: r else (y, t) :: put r x sl
noncomputable def Slot.freeze : Slot → Slot
  | .frz d => .frz d
  | .own xs => .frz (.list xs)
  | .nest pre cur post => .frz (.list ((pre ++ [cur] ++ post).map .list))
  | .buf b => .frz (.buf b)
inductive Fl where
  | nxt
  | ret (d : D)
inductive OwnAt (g : Frz) (h : Heap) (xs : List D) (v : Value) (l : List Addr) : Prop
  | mk (a : Addr) (vs : List Value) (n : Nat) (_ : v = .ref a) (_ : h.get? a = some (listObj vs n)) (_ : RL g xs vs) (_ : l = [a])
inductive NestAt (g : Frz) (h : Heap) (pre : List (List D)) (cur : List D) (post : List (List D)) (v : Value) (l : List Addr) : Prop
  | mk (a b : Addr) (pv qv : List Value) (n : Nat) (vs : List Value) (n' : Nat) (_ : v = .ref a) (_ : h.get? a = some (listObj (pv ++ .ref b :: qv) n)) (_ : h.get? b = some (listObj vs n')) (_ : RL g (pre.map .list) pv) (_ : RL g cur vs) (_ : RL g (post.map .list) qv) (_ : a ≠ b) (_ : l = [a, b])
noncomputable def SlotOK (g : Frz) (h : Heap) : Slot → Value → List Addr → Prop
  | .frz d, v, l => R g d v ∧ l = []
  | .own xs, v, l => OwnAt g h xs v l
  | .nest pre cur post, v, l => NestAt g h pre cur post v l
  | .buf b, v, l => ∃ a, v = .ref a ∧ h.get? a = some (bufObj b) ∧ l = [a]
noncomputable def NotVar (o : Obj) : Prop := (∀ es ep, o.data ≠ .dict es ep) ∧ (∀ v, o.data ≠ .cell v) ∧ ∀ fs, o.data ≠ .fields fs
structure Cf (C : Mod) (k : Nat) (sc : Names) where
  B : Frz
  g₀ : Frz
  s₀ : Shared
  env : Env
  A : Around
  nm : env.scope.names = sc
  rm : Room k A
  top : C.top sc = true → A.frames = some [env] ∧ env.frame = some env.locals
structure St where
  g : Frz
  s : Shared
  m : Str → Option Value
  ad : Str → List Addr
variable {C : Mod} {k : Nat} {sc : Names} {X : Cf C k sc} {σ : Store} {p : St}
noncomputable def Ownd (X : Cf C k sc) (g : Frz) (h : Heap) (a : Addr) : Prop := X.B a = none ∧ g a = none ∧ a ∉ C.tabs ∧ ∃ o, h.get? a = some o ∧ NotVar o
structure Inv (X : Cf C k sc) (σ : Store) (p : St) : Prop where
  same : ∃ h tk, p.s = { X.s₀ with heap := h, toks := tk }
  grow : X.g₀.le p.g
  fresh : ∀ a o, X.B a = some o → p.g a = X.g₀ a
  keep : ∀ a o, X.B a = some o → p.s.heap.get? a = some o
  notab : ∀ a o, X.B a = some o → a ∉ C.tabs
  good : Good C p.g p.s
  frame : Frame C p.s.heap X.env p.m
  slot : ∀ x sl, σ.lookup x = some sl → ∃ v, p.m x = some v ∧ SlotOK p.g p.s.heap sl v (p.ad x)
  own : ∀ x a, a ∈ p.ad x → Ownd X p.g p.s.heap a
  apart : ∀ x y a, a ∈ p.ad x → a ∈ p.ad y → x = y
  loc : X.B X.env.locals = none ∧ p.g X.env.locals = none
  cell : ∀ x c, X.env.kindOf x = some .cell → X.env.cells.lookup x = some c → X.B c = none ∧ p.g c = none
noncomputable def fz (σ : Store) : Ct := fun x => match σ.lookup x with | some (.frz d) => some d | _ => none
theorem fz_of {x : Str} {d : D} (h : σ.lookup x = some (.frz d)) : fz σ x = some d := by unfold fz; rw [h]
theorem of_fz {x : Str} {d : D} (h : fz σ x = some d) : σ.lookup x = some (.frz d) := by
  unfold fz at h
  split at h
  · rename_i e; cases h; exact e
  · cases h
noncomputable def Cf.cx (X : Cf C k sc) (m : Str → Option Value) : Cx C := ⟨X.env, m, X.A⟩
theorem Inv.on (I : Inv X σ p) : On k sc (fz σ) (X.cx p.m) p.g p.s := ⟨X.nm, I.frame, fun x d h => let ⟨v, hv, hs⟩ := I.slot x _ (of_fz h); ⟨v, hv, hs.1⟩, X.rm, I.good⟩
theorem SlotOK.mono {g g' : Frz} {h h' : Heap} {sl : Slot} {v : Value} {l : List Addr} (x : SlotOK g h sl v l) (hg : g.le g') (hk : ∀ a o, a ∈ l → h.get? a = some o → h'.get? a = some o) : SlotOK g' h' sl v l := by
  cases sl with
  | frz d => exact ⟨x.1.mono hg, x.2⟩
  | own xs =>
    obtain ⟨a, vs, n, e, ha, hr, rfl⟩ := x
    exact ⟨a, vs, n, e, hk _ _ (.head _) ha, hr.mono hg, rfl⟩
  | nest pre cur post =>
    obtain ⟨a, b, pv, qv, n, vs, n', e, ha, hb, h1, h2, h3, h4, rfl⟩ := x
    exact ⟨a, b, pv, qv, n, vs, n', e, hk _ _ (.head _) ha, hk _ _ (.tail _ (.head _)) hb, h1.mono hg, h2.mono hg, h3.mono hg, h4, rfl⟩
  | buf b =>
    obtain ⟨a, e, ha, rfl⟩ := x
    exact ⟨a, e, hk _ _ (.head _) ha, rfl⟩
theorem lookup_put (x : Str) (sl : Slot) (y : Str) : ∀ σ : Store, (put σ x sl).lookup y = if y = x then some sl else σ.lookup y
  | [] => by
    show (match y == x with | true => some sl | false => none) = _
    by_cases q : y = x
    · rw [if_pos q, beq_iff_eq.mpr q]
    · rw [if_neg q, beq_eq_false_iff_ne.mpr q]; rfl
  | (z, t) :: r => by
    have ih := lookup_put x sl y r
    show (if z = x then (x, sl) :: r else (z, t) :: put r x sl).lookup y = _
    by_cases h : z = x
    · rw [if_pos h, List.lookup_cons, List.lookup_cons, h]
      by_cases q : y = x
      · rw [if_pos q, beq_iff_eq.mpr q]
      · rw [if_neg q, beq_eq_false_iff_ne.mpr q]
    · rw [if_neg h, List.lookup_cons, List.lookup_cons]
      by_cases q : y = z
      · rw [beq_iff_eq.mpr q, if_neg (fun e => h (q ▸ e))]
      · rw [beq_eq_false_iff_ne.mpr q]; exact ih
theorem Ownd.st {g g' : Frz} {s s' : Shared} {a : Addr} (h : Ownd X g s.heap a) (t : Step C g s g' s') : Ownd X g' s'.heap a :=
  let ⟨h1, h2, h3, o, h4, h5⟩ := h
  ⟨h1, (t.fresh a o h4).trans h2, h3, o, t.keep a o h3 h4, h5⟩
theorem Inv.locl (I : Inv X σ p) : ∃ o es ep, p.s.heap.get? X.env.locals = some o ∧ o.data = .dict es ep := let ⟨_, ⟨o, es, ep, ho, hd, _⟩, _⟩ := I.frame.ns; ⟨o, es, ep, ho, hd⟩
theorem Inv.celll (I : Inv X σ p) {x : Str} {c : Addr} (hk : X.env.kindOf x = some .cell) (hc : X.env.cells.lookup x = some c) : ∃ o v, p.s.heap.get? c = some o ∧ o.data = .cell v := by
  refine Classical.byContradiction fun ng0 => ?_
  obtain ⟨c', e1, ⟨o, ho, hd⟩, _⟩ := I.frame.cell x (.inl hk)
  rw [hc] at e1; cases e1
  refine ng0 ?_
  exact ⟨o, _, ho, hd⟩
theorem Inv.after {g' : Frz} {s' : Shared} (I : Inv X σ p) (t : Step C p.g p.s g' s') : Inv X σ ⟨g', s', p.m, p.ad⟩ := by
  refine ⟨?_, Frz.le_trans I.grow t.grow, fun a o h => (t.fresh a o (I.keep a o h)).trans (I.fresh a o h), fun a o h => t.keep a o (I.notab a o h) (I.keep a o h), I.notab, t.good, I.frame.step t, fun x sl h => ?_, fun x a ha => (I.own x a ha).st t, I.apart, ⟨I.loc.1, ?_⟩, fun x c hk hc => ⟨(I.cell x c hk hc).1, ?_⟩⟩
  · refine Classical.byContradiction fun ng0 => ?_
    obtain ⟨h, tk, e⟩ := I.same
    obtain ⟨h', tk', rfl⟩ := t.same
    refine ng0 ?_
    exact ⟨h', tk', by rw [e]⟩
  · refine Classical.byContradiction fun ng0 => ?_
    obtain ⟨v, hv, hs⟩ := I.slot x sl h
    refine ng0 ?_
    exact ⟨v, hv, hs.mono t.grow fun a o ha e => t.keep a o (I.own x a ha).2.2.1 e⟩
  · refine Classical.byContradiction fun ng0 => ?_
    obtain ⟨o, _, _, ho, _⟩ := I.locl
    refine ng0 ?_
    exact (t.fresh _ o ho).trans I.loc.2
  · refine Classical.byContradiction fun ng0 => ?_
    obtain ⟨o, _, ho, _⟩ := I.celll hk hc
    refine ng0 ?_
    exact (t.fresh _ o ho).trans (I.cell x c hk hc).2
theorem Inv.dead (I : Inv X σ p) {a : Addr} (h : p.s.heap.get? a = none) : X.B a = none := by
  cases e : X.B a with
  | none => rfl
  | some o => rw [I.keep a o e] at h; cases h
theorem Inv.newAd (I : Inv X σ p) {a : Addr} (h : p.s.heap.get? a = none) (y : Str) : a ∉ p.ad y := fun q => by
  obtain ⟨_, _, _, o, ho, _⟩ := I.own y a q
  rw [ho] at h; cases h
noncomputable def updAd (ad : Str → List Addr) (x : Str) (l : List Addr) : Str → List Addr := fun y => if y = x then l else ad y
noncomputable def storable (sc : Names) (x : Str) : Bool := (sc.lookup x == some .local || sc.lookup x == some .cell) && !(x == ("__debug__" : Str)) && !(x == ("__classdict__" : Str))
theorem storable_kind {x : Str} (h : storable sc x = true) (X : Cf C k sc) : X.env.kindOf x = some .local ∨ X.env.kindOf x = some .cell := by
  unfold storable at h
  rw [Bool.and_eq_true, Bool.and_eq_true, Bool.or_eq_true, beq_iff_eq, beq_iff_eq] at h
  unfold Env.kindOf; rw [X.nm]; exact h.1.1
theorem storable_no {x : Str} (h : storable sc x = true) : (x == ("__debug__" : Str)) = false ∧ (x == ("__classdict__" : Str)) = false := by
  unfold storable at h
  rw [Bool.and_eq_true, Bool.and_eq_true, Bool.not_eq_true', Bool.not_eq_true'] at h
  exact ⟨h.1.2, h.2⟩
theorem Inv.place (I : Inv X σ p) {x : Str} (hx : X.env.kindOf x = some .local ∨ X.env.kindOf x = some .cell) : (X.B (place X.env x) = none ∧ p.g (place X.env x) = none ∧ place X.env x ∉ C.tabs) ∧ ∀ o, p.s.heap.get? (place X.env x) = some o → ¬ NotVar o := by
  rcases hx with hx | hx
  · rw [place_local hx]
    refine Classical.byContradiction fun ng0 => ?_
    obtain ⟨o, es, ep, ho, hd⟩ := I.locl
    refine ng0 ?_
    exact ⟨⟨I.loc.1, I.loc.2, I.frame.locT⟩, fun o' ho' n => by rw [ho] at ho'; cases ho'; exact n.1 _ _ hd⟩
  · refine Classical.byContradiction fun ng0 => ?_
    obtain ⟨c, e1, ⟨o, ho, hd⟩, e3⟩ := I.frame.cell x (.inl hx)
    have pl : Mine.place X.env x = c := by unfold Mine.place; rw [if_neg (by rw [hx]; decide), e1]; rfl
    refine ng0 ?_
    rw [pl]
    exact ⟨⟨(I.cell x c hx e1).1, (I.cell x c hx e1).2, e3⟩, fun o' ho' n => by rw [ho] at ho'; cases ho'; exact n.2.1 _ hd⟩
theorem Inv.store {A : Around} (I : Inv X σ p) {x : Str} {v : Value} {sl : Slot} {l : List Addr} (hx : X.env.kindOf x = some .local ∨ X.env.kindOf x = some .cell) (hs : SlotOK p.g p.s.heap sl v l) (hl : ∀ a ∈ l, Ownd X p.g p.s.heap a) (hd : ∀ y, y ≠ x → ∀ a ∈ l, a ∉ p.ad y)
    {E : Value → Shared → Prop} {Q : Unit → Shared → Prop} (h : ∀ s', Inv X (put σ x sl) ⟨p.g, s', upd p.m x v, updAd p.ad x l⟩ → (∀ a o, p.s.heap.get? a = some o → NotVar o → s'.heap.get? a = some o) → Q () s') : wpAny C.M A (storeName X.env x v) Q E p.s := by
  refine Classical.byContradiction fun ng0 => ?_
  obtain ⟨⟨p1, p2, p3⟩, p4⟩ := I.place hx
  have ne : ∀ a o, p.s.heap.get? a = some o → NotVar o → a ≠ Mine.place X.env x := fun a o e no q => p4 o (q ▸ e) no
  refine ng0 ?_
  refine I.frame.store hx fun h' tk F' hk _ => h _ ?_ fun a o e no => hk a o (ne a o e no) e
  have keepA : ∀ {a}, Ownd X p.g p.s.heap a → ∀ o, p.s.heap.get? a = some o → h'.get? a = some o := fun {a} w o e => by
    refine Classical.byContradiction fun ng0 => ?_
    obtain ⟨_, _, _, o', ho', no'⟩ := w
    refine ng0 ?_
    exact hk a o (ne a o' ho' no') e
  have ownA : ∀ {a}, Ownd X p.g p.s.heap a → Ownd X p.g h' a := fun {a} w => ⟨w.1, w.2.1, w.2.2.1, w.2.2.2.elim fun o ho => ⟨o, keepA w o ho.1, ho.2⟩⟩
  have stB : StepB C (fun a => a = Mine.place X.env x) p.g p.s p.g { p.s with heap := h', toks := tk } := StepB.upd I.good (fun a q => q ▸ ⟨p2, p3⟩) hk
  refine ⟨?_, I.grow, I.fresh, fun a o e => hk a o (fun q => by rw [q, p1] at e; cases e) (I.keep a o e), I.notab, stB.good, F', fun y t hy => ?_, fun y a ha => ?_, fun y z a hy hz => ?_, I.loc, I.cell⟩
  · refine Classical.byContradiction fun ng0 => ?_
    obtain ⟨h, tk, e⟩ := I.same
    refine ng0 ?_
    exact ⟨h', _, by show ({ p.s with heap := h', toks := _ } : Shared) = _; rw [e]⟩
  · rw [lookup_put] at hy
    by_cases q : y = x
    · rw [if_pos q] at hy; cases hy
      refine ⟨v, if_pos q, ?_⟩
      show SlotOK _ _ _ _ (if y = x then l else p.ad y)
      rw [if_pos q]
      exact hs.mono p.g.le_refl fun a o ha e => keepA (hl a ha) o e
    · rw [if_neg q] at hy
      refine Classical.byContradiction fun ng0 => ?_
      obtain ⟨w, hw, hsw⟩ := I.slot y t hy
      refine ng0 ?_
      refine ⟨w, (if_neg q).trans hw, ?_⟩
      show SlotOK _ _ _ _ (if y = x then l else p.ad y)
      rw [if_neg q]
      exact hsw.mono p.g.le_refl fun a o ha e => keepA (I.own y a ha) o e
  · have ha : a ∈ (if y = x then l else p.ad y) := ha
    split at ha
    · exact ownA (hl a ha)
    · exact ownA (I.own y a ha)
  · have hy : a ∈ (if y = x then l else p.ad y) := hy
    have hz : a ∈ (if z = x then l else p.ad z) := hz
    split at hy <;> split at hz
    · rename_i q1 q2; rw [q1, q2]
    · rename_i q1 q2; exact absurd hz (hd z q2 a hy)
    · rename_i q1 q2; exact absurd hy (hd y q1 a hz)
    · exact I.apart y z a hy hz
end Mine
end
section
open PySem PySem.W PyProof.Rows
namespace Mine
variable {C : Mod} {k : Nat} {sc : Names} {ρ ρ' : Ct} {X : Cf C k sc} {σ σ' : Store} {p : St} {K : Store → Fl → Prop}
theorem Inv.regrow (I : Inv X σ p) {x : Str} {g' : Frz} (hg : p.g.le g') (hnew : ∀ b, p.g b = none → g' b ≠ none → b ∈ p.ad x) :
    (∀ a o, X.B a = some o → g' a = X.g₀ a) ∧ (∀ a, (∀ o, p.s.heap.get? a = some o → ¬ NotVar o) → (∃ o, p.s.heap.get? a = some o) → p.g a = none → g' a = none) ∧ (∀ y a, y ≠ x → a ∈ p.ad y → g' a = none) := by
  have key : ∀ a, p.g a = none → a ∉ p.ad x → g' a = none := fun a h n => by
    cases e : g' a with
    | none => rfl
    | some o => exact absurd (hnew a h (by rw [e]; exact Option.some_ne_none _)) n
  refine ⟨fun a o h => ?_, fun a no ⟨o, ho⟩ h => key a h fun q => ?_, fun y a n h => key a (I.own y a h).2.1 fun q => n (I.apart y x a h q)⟩
  · rw [← I.fresh a o h]
    cases hq : p.g a with
    | some o' => exact hg a o' hq
    | none => exact key a hq fun q => by rw [(I.own x a q).1] at h; cases h
  · obtain ⟨_, _, _, o', ho', no'⟩ := I.own x a q
    exact no o' ho' no'
theorem Inv.freezeTo (I : Inv X σ p) {x : Str} {v : Value} {d : D} {g' : Frz} (hm : p.m x = some v) (G' : Good C g' p.s) (hg : p.g.le g') (hnew : ∀ b, p.g b = none → g' b ≠ none → b ∈ p.ad x) (hR : R g' d v) : Inv X (put σ x (.frz d)) ⟨g', p.s, p.m, updAd p.ad x []⟩ := by
  refine Classical.byContradiction fun ng0 => ?_
  obtain ⟨r1, r2, r3⟩ := I.regrow hg hnew
  refine ng0 ?_
  refine ⟨I.same, Frz.le_trans I.grow hg, r1, I.keep, I.notab, G', I.frame, fun y t hy => ?_, fun y a ha => ?_, fun y z a hy hz => ?_, ⟨I.loc.1, ?_⟩, fun y c hk hc => ⟨(I.cell y c hk hc).1, ?_⟩⟩
  · rw [lookup_put] at hy
    show ∃ v, p.m y = some v ∧ SlotOK g' p.s.heap t v (if y = x then [] else p.ad y)
    by_cases q : y = x
    · rw [if_pos q] at hy ⊢; cases hy
      exact ⟨v, q ▸ hm, hR, rfl⟩
    · rw [if_neg q] at hy ⊢
      refine Classical.byContradiction fun ng0 => ?_
      obtain ⟨w, hw, hsw⟩ := I.slot y t hy
      refine ng0 ?_
      exact ⟨w, hw, hsw.mono hg fun a o _ e => e⟩
  · have ha : a ∈ (if y = x then [] else p.ad y) := ha
    split at ha
    · cases ha
    · rename_i q
      refine Classical.byContradiction fun ng0 => ?_
      obtain ⟨h1, h2, h3, h4⟩ := I.own y a ha
      refine ng0 ?_
      exact ⟨h1, r3 y a q ha, h3, h4⟩
  · have hy : a ∈ (if y = x then [] else p.ad y) := hy
    have hz : a ∈ (if z = x then [] else p.ad z) := hz
    split at hy
    · cases hy
    · split at hz
      · cases hz
      · exact I.apart y z a hy hz
  · refine Classical.byContradiction fun ng0 => ?_
    obtain ⟨o, es, ep, ho, hd⟩ := I.locl
    refine ng0 ?_
    exact r2 _ (fun o' ho' n => by rw [ho] at ho'; cases ho'; exact n.1 _ _ hd) ⟨o, ho⟩ I.loc.2
  · refine Classical.byContradiction fun ng0 => ?_
    obtain ⟨o, v, ho, hd⟩ := I.celll hk hc
    refine ng0 ?_
    exact r2 _ (fun o' ho' n => by rw [ho] at ho'; cases ho'; exact n.2.1 _ hd) ⟨o, ho⟩ (I.cell y c hk hc).2
theorem put_new {g : Frz} {a b : Addr} {o : Obj} (h1 : g b = none) (h2 : (g.put a o) b ≠ none) : b = a := by
  unfold Frz.put at h2
  split at h2
  · assumption
  · exact absurd h1 h2
theorem Inv.freeze1 (I : Inv X σ p) {x : Str} {sl : Slot} (hx : σ.lookup x = some sl) : ∃ g' ad', Inv X (put σ x sl.freeze) ⟨g', p.s, p.m, ad'⟩ := by
  refine Classical.byContradiction fun ng0 => ?_
  obtain ⟨v, hv, hs⟩ := I.slot x sl hx
  refine ng0 ?_
  cases sl with
  | frz d => exact ⟨_, _, I.freezeTo hv I.good p.g.le_refl (fun b h1 h2 => absurd h1 h2) hs.1⟩
  | own xs =>
    refine Classical.byContradiction fun ng0 => ?_
    obtain ⟨a, vs, n, rfl, ha, hr, hl⟩ := hs
    obtain ⟨_, o2, o3, _⟩ := I.own x a (hl ▸ .head _)
    refine ng0 ?_
    exact ⟨_, _, I.freezeTo hv (I.good.freeze o2 ha o3) (Frz.le_put o2) (fun b h1 h2 => by rw [hl, put_new h1 h2]; exact .head _) ⟨a, vs, n, rfl, Frz.put_self .., hr.mono (Frz.le_put o2)⟩⟩
  | nest pre cur post =>
    refine Classical.byContradiction fun ng0 => ?_
    obtain ⟨a, b, pv, qv, n, vs, n', rfl, ha, hb, h1, h2, h3, h4, hl⟩ := hs
    obtain ⟨_, a2, a3, _⟩ := I.own x a (hl ▸ .head _)
    obtain ⟨_, b2, b3, _⟩ := I.own x b (hl ▸ .tail _ (.head _))
    have a2' : (p.g.put b (listObj vs n')) a = none := by unfold Frz.put; rw [if_neg h4]; exact a2
    have le1 : p.g.le (p.g.put b (listObj vs n')) := Frz.le_put b2
    have le2 : (p.g.put b (listObj vs n')).le ((p.g.put b (listObj vs n')).put a (listObj (pv ++ .ref b :: qv) n)) := Frz.le_put a2'
    have le := Frz.le_trans le1 le2
    refine ng0 ?_
    refine ⟨_, _, I.freezeTo hv ((I.good.freeze b2 hb b3).freeze a2' ha a3) le (fun c k1 k2 => ?_) ⟨a, _, n, rfl, Frz.put_self .., ?_⟩⟩
    · rw [hl]
      by_cases q : c = b
      · rw [q]; exact .tail _ (.head _)
      · rw [put_new (show (p.g.put b (listObj vs n')) c = none by unfold Frz.put; rw [if_neg q]; exact k1) k2]; exact .head _
    · rw [List.map_append, List.map_append, List.append_assoc]
      exact (h1.mono le).append (RL.cons ⟨b, vs, n', rfl, le2 _ _ (Frz.put_self ..), h2.mono le⟩ (h3.mono le))
  | buf bb =>
    refine Classical.byContradiction fun ng0 => ?_
    obtain ⟨a, rfl, ha, hl⟩ := hs
    obtain ⟨_, o2, o3, _⟩ := I.own x a (hl ▸ .head _)
    refine ng0 ?_
    exact ⟨_, _, I.freezeTo hv (I.good.freeze o2 ha o3) (Frz.le_put o2) (fun b h1 h2 => by rw [hl, put_new h1 h2]; exact .head _) ⟨a, rfl, Frz.put_self ..⟩⟩
theorem Frame.keepO {h h' : Heap} {env : Env} {m : Str → Option Value} {l : List Addr} (F : Frame C h env m) (hk : ∀ a o, a ∉ l → h.get? a = some o → h'.get? a = some o) (hl : ∀ a ∈ l, ∃ o, h.get? a = some o ∧ NotVar o) : Frame C h' env m := by
  refine ⟨F.fn, F.glob, F.blt, ?_, fun x hx => ?_, F.locT, F.apart, F.code⟩
  · refine Classical.byContradiction fun ng0 => ?_
    obtain ⟨ml, ⟨o, es, ep, ho, hd, r⟩, e⟩ := F.ns
    refine ng0 ?_
    exact ⟨ml, ⟨o, es, ep, hk _ _ (fun q => by obtain ⟨o', ho', n⟩ := hl _ q; rw [ho] at ho'; cases ho'; exact n.1 _ _ hd) ho, hd, r⟩, e⟩
  · refine Classical.byContradiction fun ng0 => ?_
    obtain ⟨c, e, ⟨o, ho, hd⟩, n⟩ := F.cell x hx
    refine ng0 ?_
    exact ⟨c, e, ⟨o, hk _ _ (fun q => by obtain ⟨o', ho', n⟩ := hl _ q; rw [ho] at ho'; cases ho'; exact n.2.1 _ hd) ho, hd⟩, n⟩
theorem Inv.turnOwn (I : Inv X σ p) {x : Str} {v : Value} {sl' : Slot} {l' : List Addr} {g' : Frz} {h' : Heap} {tk : Nat} (hm : p.m x = some v)
    (hk : ∀ a o, a ∉ p.ad x → p.s.heap.get? a = some o → h'.get? a = some o) (hg : p.g.le g') (hnew : ∀ b, p.g b = none → g' b ≠ none → b ∈ p.ad x ∧ b ∉ l')
    (G' : Good C g' { p.s with heap := h', toks := tk }) (hs : SlotOK g' h' sl' v l') (hl : ∀ a ∈ l', a ∈ p.ad x ∨ (p.s.heap.get? a = none ∧ p.g a = none ∧ a ∉ C.tabs)) (hl' : ∀ a ∈ l', ∃ o, h'.get? a = some o ∧ NotVar o) :
    Inv X (put σ x sl') ⟨g', { p.s with heap := h', toks := tk }, p.m, updAd p.ad x l'⟩ := by
  refine Classical.byContradiction fun ng0 => ?_
  obtain ⟨r1, r2, r3⟩ := I.regrow hg fun b h1 h2 => (hnew b h1 h2).1
  have key : ∀ y a, y ≠ x → a ∈ p.ad y → a ∉ l' := fun y a n h1 h2 => by
    rcases hl a h2 with z | z
    · exact n (I.apart y x a h1 z)
    · exact I.newAd z.1 y h1
  refine ng0 ?_
  refine ⟨?_, Frz.le_trans I.grow hg, r1, fun a o h => hk a o (fun q => by rw [(I.own x a q).1] at h; cases h) (I.keep a o h), I.notab, G', I.frame.keepO hk fun a ha => (I.own x a ha).2.2.2, fun y t hy => ?_, fun y a ha => ?_, fun y z a hy hz => ?_, ⟨I.loc.1, ?_⟩, fun y c hkc hc => ⟨(I.cell y c hkc hc).1, ?_⟩⟩
  · refine Classical.byContradiction fun ng0 => ?_
    obtain ⟨h, t, e⟩ := I.same
    refine ng0 ?_
    exact ⟨h', tk, by show ({ p.s with heap := h', toks := tk } : Shared) = _; rw [e]⟩
  · rw [lookup_put] at hy
    show ∃ v, p.m y = some v ∧ SlotOK g' h' t v (if y = x then l' else p.ad y)
    by_cases q : y = x
    · rw [if_pos q] at hy ⊢; cases hy
      exact ⟨v, q ▸ hm, hs⟩
    · rw [if_neg q] at hy ⊢
      refine Classical.byContradiction fun ng0 => ?_
      obtain ⟨w, hw, hsw⟩ := I.slot y t hy
      refine ng0 ?_
      exact ⟨w, hw, hsw.mono hg fun a o ha e => hk a o (fun z => q (I.apart y x a ha z)) e⟩
  · have ha : a ∈ (if y = x then l' else p.ad y) := ha
    split at ha
    · have gn : p.g a = none → g' a = none := fun hn => by
        cases hq' : g' a with
        | none => rfl
        | some x' => exact absurd ha (hnew a hn (by rw [hq']; exact Option.some_ne_none _)).2
      rcases hl a ha with z | z
      · refine Classical.byContradiction fun ng0 => ?_
        obtain ⟨h1, h2, h3, _⟩ := I.own x a z
        refine ng0 ?_
        exact ⟨h1, gn h2, h3, hl' a ha⟩
      · exact ⟨I.dead z.1, gn z.2.1, z.2.2, hl' a ha⟩
    · rename_i q
      refine Classical.byContradiction fun ng0 => ?_
      obtain ⟨h1, h2, h3, o, h4, h5⟩ := I.own y a ha
      refine ng0 ?_
      exact ⟨h1, r3 y a q ha, h3, o, hk a o (fun z => q (I.apart y x a ha z)) h4, h5⟩
  · have hy : a ∈ (if y = x then l' else p.ad y) := hy
    have hz : a ∈ (if z = x then l' else p.ad z) := hz
    split at hy <;> split at hz
    · rename_i q1 q2; rw [q1, q2]
    · rename_i q1 q2; exact absurd hy (key z a q2 hz)
    · rename_i q1 q2; exact absurd hz (key y a q1 hy)
    · exact I.apart y z a hy hz
  · refine Classical.byContradiction fun ng0 => ?_
    obtain ⟨o, es, ep, ho, hd⟩ := I.locl
    refine ng0 ?_
    exact r2 _ (fun o' ho' n => by rw [ho] at ho'; cases ho'; exact n.1 _ _ hd) ⟨o, ho⟩ I.loc.2
  · refine Classical.byContradiction fun ng0 => ?_
    obtain ⟨o, v, ho, hd⟩ := I.celll hkc hc
    refine ng0 ?_
    exact r2 _ (fun o' ho' n => by rw [ho] at ho'; cases ho'; exact n.2.1 _ hd) ⟨o, ho⟩ (I.cell y c hkc hc).2
/-! the judgements of statements -/
noncomputable def Ex (C : Mod) (k : Nat) (sc : Names) (σ : Store) (b : List Stmt) (K : Store → Fl → Prop) : Prop := ∀ (X : Cf C k sc) p (E : Value → Shared → Prop) (Q : Flow → Shared → Prop), Inv X σ p → (∀ σ' p', Inv X σ' p' → K σ' .nxt → Q .next p'.s) → (∀ σ' p' d v, Inv X σ' p' → K σ' (.ret d) → R p'.g d v → Q (.ret v) p'.s) →
  wpC C X.A (execs b X.env) Q E p.s
noncomputable def Es (C : Mod) (k : Nat) (sc : Names) (σ : Store) (b : Stmt) (K : Store → Fl → Prop) : Prop := ∀ (X : Cf C k sc) p (E : Value → Shared → Prop) (Q : Flow → Shared → Prop), Inv X σ p → (∀ σ' p', Inv X σ' p' → K σ' .nxt → Q .next p'.s) → (∀ σ' p' d v, Inv X σ' p' → K σ' (.ret d) → R p'.g d v → Q (.ret v) p'.s) →
  wpC C X.A (exec b X.env) Q E p.s
noncomputable def S1 (C : Mod) (k : Nat) (sc : Names) (σ : Store) (b : Stmt) (σ' : Store) : Prop := ∀ (X : Cf C k sc) p (E : Value → Shared → Prop) (Q : Flow → Shared → Prop), Inv X σ p → (∀ p', Inv X σ' p' → Q .next p'.s) → wpC C X.A (exec b X.env) Q E p.s
theorem x_nil (h : K σ .nxt) : Ex C k sc σ [] K := fun X p E Q I q _ => wpC_execs_nil (q _ _ I h)
theorem x_seq {st r} (h : S1 C k sc σ st σ') (hr : Ex C k sc σ' r K) : Ex C k sc σ (st :: r) K := fun X p E Q I q q' => wpC_execs_cons (h X p E _ I fun p' I' => hr X p' E Q I' q q')
theorem x_cons {st r K'} (h : Es C k sc σ st K') (hr : ∀ σ', K' σ' .nxt → Ex C k sc σ' r K) (hq : ∀ σ' d, K' σ' (.ret d) → K σ' (.ret d)) : Ex C k sc σ (st :: r) K := fun X p E Q I q q' =>
  wpC_execs_cons (h X p E _ I (fun σ' p' I' hk => hr σ' hk X p' E Q I' q q') fun σ' p' d v I' hk hv => q' σ' p' d v I' (hq σ' d hk) hv)
theorem x_frz {x sl b} (hx : σ.lookup x = some sl) (h : Ex C k sc (put σ x sl.freeze) b K) : Ex C k sc σ b K := fun X p E Q I q q' => let ⟨g', ad', I'⟩ := I.freeze1 hx; h X ⟨g', p.s, p.m, ad'⟩ E Q I' q q'
theorem x_ret {e d r pos} (h : Ev C k sc (fz σ) e d) (q0 : K σ (.ret d)) : Ex C k sc σ (.Return (some e) pos :: r) K := fun X p E Q I _ q =>
  wpC_execs_cons (wpC_Return_some (h _ p.g p.s I.on E _ fun v g' s' t hv => q _ _ _ _ (I.after t) q0 hv))
theorem s_ifT {t b o pos} (h : EvT C k sc (fz σ) t true) (hb : Ex C k sc σ b K) : Es C k sc σ (.If t b o pos) K := fun X p E Q I q q' =>
  wpC_If (h _ p.g p.s I.on E _ fun v g' s' t hv => by rw [hv]; exact hb X _ E Q (I.after t) q q')
theorem s_ifF {t b o pos} (h : EvT C k sc (fz σ) t false) (hb : Ex C k sc σ o K) : Es C k sc σ (.If t b o pos) K := fun X p E Q I q q' =>
  wpC_If (h _ p.g p.s I.on E _ fun v g' s' t hv => by rw [hv]; exact hb X _ E Q (I.after t) q q')
end Mine
end
section
open PySem PySem.W PyProof.Rows
set_option maxRecDepth 100000
namespace Mine
theorem mro_ba : mroOf (.type "bytearray") = pure [.type "bytearray", .type "object"] := by rw [mroOf_type]; kernel_rfl
theorem lookup_ba_new : typeLookup (.type "bytearray") "__new__" = pure (some (.builtin "bytearray.__new__")) := by rw [typeLookup_type, builtinLookup_eq_fast]; kernel_rfl
theorem slot_ba_init : PySem.Slot "bytearray" "__init__" "bytearray.__init__" :=
  .of (owner := "bytearray") (n := "__init__") (by rw [typeLookup_type, builtinLookup_eq_fast]; kernel_rfl) (by decide +kernel) (by decide +kernel) (by decide +kernel)
    (by first | exact .inl (by decide +kernel) | exact .inr (by decide +kernel)) (by rw [isSubtype_type]; kernel_rfl)
theorem called_ba : TypeCalled "bytearray" "bytearray.__new__" "bytearray.__init__" :=
  ⟨by decide +kernel, by decide +kernel, ⟨_, _, mro_ba⟩, madeBy_type mro_ba lookup_ba_new (by decide +kernel), by decide +kernel, by rw [isSubtype_type]; kernel_rfl, slot_ba_init⟩
theorem typeCall_ba (a : Value) : checkTypeCall "bytearray" ⟨[a], []⟩ = pure () := by kernel_rfl
theorem newCall_ba (a : Value) : checkBuiltinCall "bytearray.__new__" ⟨[.type "bytearray", a], []⟩ = pure () := by kernel_rfl
theorem entry_ba_new : entryFor table "bytearray.__new__" = some Builtin.«list.__new__» :=
  entryFor_alias (id' := "list.__new__") (by kernel_rfl) rfl (by decide +kernel) (by kernel_rfl)
theorem entry_ba_init : entryFor table "bytearray.__init__" = some Builtin.«bytearray.__init__» := entryFor_of_tree (by kernel_rfl)
theorem plain_ba_new : plainId "bytearray.__new__" = true := by decide +kernel
theorem args_ba_init (a b : Value) : argsOk "bytearray.__init__" ⟨[a, b], []⟩ := by unfold argsOk; kernel_rfl
theorem sub_ba_self : isSubtype (.type "bytearray") (.type "bytearray") = pure true := by rw [isSubtype_type]; kernel_rfl
set_option maxRecDepth 1000000 in
set_option maxHeartbeats 4000000 in
theorem owner_ba_new : ("bytearray.__new__".splitOn ".__new__").headD "" = "bytearray" := by rw [PySem.W.splitQ_eq]; kernel_rfl

section
variable {prog : Program} {w : World} {A : Around} {E : Value → Shared → Prop} {s : Shared}
theorem code_ba_new (a : Value) {Q₁ : Value → Shared → Prop}
    (h : Q₁ (.ref s.heap.objs.size) { s with heap := s.heap.push { cls := .type "bytearray", data := .bytearray #[] } }) :
    codeAny (model prog w) A (.call (.builtin "bytearray.__new__") ⟨[.type "bytearray", a], []⟩) (wants Q₁ E) s := by
  refine codeAny_of_tree ?_
  show wpAny _ A.in1 (do checkBuiltinCall "bytearray.__new__" ⟨[.type "bytearray", a], []⟩; again (.builtin "bytearray.__new__" ⟨[.type "bytearray", a], []⟩)) _ _ s
  refine wpAny_bind (wpAny_of_eq (newCall_ba a) (wpAny_pure ⟨plainId_quiet plain_ba_new _, codeAny_builtin_stack entry_ba_new rfl fun p st => ?_⟩))
  rw [Around.under_plainId plain_ba_new _]
  have hsub := sub_ba_self
  have hown := owner_ba_new
  obtain ⟨hp, g, d, tk, os⟩ := s
  simp only [hown]
  wp_walk
  exact h
end

theorem Clean.enter {Γ : PySem.Ctx} {c : Code} {h : Option Value} {p : Pos} (k : Clean Γ) (hc : calm c = true) : Clean (Γ.enter c h p) := by
  refine ⟨hc, fun x hx => ?_⟩
  have hx : x ∈ (Γ.code, p) :: Γ.below := hx
  rcases List.mem_cons.mp hx with rfl | hx
  · exact k.1
  · exact k.2 x hx
theorem Clean.goto {Γ : PySem.Ctx} {c : Code} (k : Clean Γ) (hc : calm c = true) : Clean (Γ.goto c) := ⟨hc, k.2⟩

theorem no_dec {l : List Value} {k : List (Str × Value)} {id : String} {b : Bool} (h : calm (.builtin id ⟨l, k⟩) = true) : (b && Builtin.Bytes.decodersThatHold.contains id) = false := by
  have h' : (!heldIds.contains id) = true := h
  have : Builtin.Bytes.decodersThatHold.contains id = false := by
    cases e : Builtin.Bytes.decodersThatHold.contains id with
    | false => rfl
    | true =>
      have : heldIds.contains id = true := by
        unfold heldIds
        rw [List.contains_eq_mem] at e ⊢
        simp only [decide_eq_true_eq] at e ⊢
        exact List.mem_append_right _ e
      rw [this] at h'; cases h'
  rw [this, Bool.and_false]

theorem not_held {id : String} {a : Args} (h : calm (.builtin id a) = true) {x : String} (hx : (!heldIds.contains x) = false) : ¬ id = x := fun e => by
  subst e
  have h : (!heldIds.contains id) = true := h
  rw [hx] at h; cases h
theorem held_dite {P : Prop} {i : Decidable P} {a : P → Bool} {b : ¬ P → Bool} (h : ¬ P) (hb : b h = false) : dite P a b = false := (dif_neg h).trans hb
noncomputable def heldBy (v : Value) : Code × Pos → Bool
  | (.builtin "bytearray.__contains__" ⟨u :: _, _⟩, _) | (.builtin "bytearray.__mod__" ⟨u :: _, _⟩, _)
  | (.builtin "bytearray.__rmod__" ⟨_ :: u :: _, _⟩, _) | (.builtin "_struct.pack_into.held" ⟨u :: _, _⟩, _) => Builtin.Bytes.sameRef u v
  | (.builtin "bytearray.find.held" ⟨_ :: _ :: held, _⟩, _) => held.any (Builtin.Bytes.sameRef v)
  | (.builtin id ⟨u :: _, _⟩, _) => Builtin.Bytes.sameRef u v && Builtin.Bytes.decodersThatHold.contains id
  | _ => false
theorem held_no {v : Value} {c : Code} {q : Pos} (hc : calm c = true) : heldBy v (c, q) = false := by
  cases c
  case builtin id args =>
    obtain ⟨l, k⟩ := args
    delta heldBy heldBy.match_1
    refine held_dite (not_held hc (x := "bytearray.__contains__") (by decide +kernel)) ?_
    refine held_dite (not_held hc (x := "bytearray.__mod__") (by decide +kernel)) ?_
    refine held_dite (not_held hc (x := "bytearray.__rmod__") (by decide +kernel)) ?_
    refine held_dite (not_held hc (x := "_struct.pack_into.held") (by decide +kernel)) ?_
    refine held_dite (not_held hc (x := "bytearray.find.held") (by decide +kernel)) ?_
    cases l with
    | nil => rfl
    | cons u l => exact no_dec hc
  all_goals rfl

variable {C : Mod} {A : Around} {g : Frz} {s : Shared} {E : Value → Shared → Prop}

theorem exported_wp (hC : ∀ Γ, C.ok Γ → Clean Γ) {v : Value} {Q : Bool → Shared → Prop} (h : Q false s) : wpC C A (Builtin.Bytes.exported v) Q E s := fun Γ p i j => by
  unfold Builtin.Bytes.exported
  rw [Sem.wp_bind']
  show Sem.wp _ Γ (.stack .pure) _ _ p s
  rw [Sem.wp_stack, Sem.wp_pure]
  have k := hC Γ j
  have e : ∀ x ∈ (Γ.code, p) :: Γ.below, calm x.1 = true := fun x hx => by
    rcases List.mem_cons.mp hx with rfl | hx
    · exact k.1
    · exact k.2 x hx
  show Q (List.any ((Γ.code, p) :: Γ.below) _) s
  rw [List.any_eq_false.mpr fun x hx => ?_]
  · exact h
  · have hc := e x hx
    obtain ⟨c, q⟩ := x
    rw [Bool.not_eq_true]
    exact held_no hc

theorem look_ba_release : typeLookup (.type "bytearray") "__release_buffer__" = pure (some (.builtin "bytearray.__release_buffer__")) := by rw [typeLookup_type, builtinLookup_eq_fast]; kernel_rfl
theorem ba_bind (v : Value) : Builtin.Bytes.bindOptional "bytearray.__init__" "bytearray" ["source", "encoding", "errors"] [v] [] = pure [some v, none, none] := by kernel_rfl
theorem int_idx : typeLookup (.type "int") (Str.ofString "__index__") = pure (some (.builtin "int.__index__")) := by rw [typeLookup_type, builtinLookup_eq_fast]; kernel_rfl
theorem dropR : ("bytearray.__release_buffer__".dropRight ("__release_buffer__".length + 1)) = "bytearray" := by decide +kernel

theorem ownRelease_ba {a : Addr} {Q : Bool → Shared → Prop} (hT : s.TypeIs (.ref a) "bytearray") (h : Q false s) : wpAny C.M A (Builtin.Bytes.ownRelease (.ref a)) Q E s := by
  unfold Builtin.Bytes.ownRelease Builtin.Bytes.slotIsOwn
  refine wpAny_bind ?_
  refine wpAny_bind (wpAny_specialOf hT look_ba_release ?_)
  show wpAny C.M A (do
    if (!("bytearray.__release_buffer__".endsWith ("." ++ "__release_buffer__"))) = true then return false
    isInstance (.ref a) (.type ("bytearray.__release_buffer__".dropRight ("__release_buffer__".length + 1)))) _ _ s
  rw [dropR]
  have e : (!("bytearray.__release_buffer__".endsWith ("." ++ "__release_buffer__"))) = false := by decide +kernel
  rw [e]
  simp only [Bool.false_eq_true, if_false]
  refine wpAny_isInstance hT sub_ba_self ?_
  exact wpAny_pure h

theorem writeBuf {a : Addr} {b : List UInt8} {f : Array UInt8 → Array UInt8} {b' : List UInt8} {Q : Unit → Shared → Prop} (ho : s.heap.get? a = some (bufObj b)) (hf : f b.toArray = b'.toArray) (hz : b'.length ≤ lim)
    (h : ∀ h', h'.get? a = some (bufObj b') → Heap.SameBut a s.heap h' → Q () { s with heap := h' }) : wpAny C.M A (Builtin.Bytes.write (.ref a) f) Q E s := by
  show wpAny _ _ (updateBytearray a f) _ _ _
  unfold updateBytearray
  refine wpAny_bind (wpAny_load ho ?_)
  show wpAny _ _ (update a (Obj.mapBytearray f) >>= fun _ => lookBehind a) _ _ _
  refine wpAny_bind (wpAny_update ho ?_)
  have h2 : (s.heap.update a (Obj.mapBytearray f)).get? a = some (bufObj b') := by
    rw [Heap.get?_update_self (Obj.mapBytearray f) ho rfl]
    show some ({ cls := .type "bytearray", data := .bytearray (f b.toArray) 0 } : Obj) = _
    rw [hf]
  refine wpAny_lookBehind h2 ?_ (h _ h2 (Heap.SameBut.update ..))
  show (if (b'.toArray).size > sizeLine then some "bytearray:memory" else none) = none
  rw [if_neg]
  rw [List.size_toArray, sizeLine_is]
  simp only [lim] at hz; omega

theorem ifC_false {α : Type} {c : Bool} {a b : Sem α} {Q : α → Shared → Prop} (hc : c = false) (h : wpC C A b Q E s) : wpC C A (if c = true then a else b) Q E s := by subst hc; exact h
theorem ifC_true {α : Type} {c : Bool} {a b : Sem α} {Q : α → Shared → Prop} (hc : c = true) (h : wpC C A a Q E s) : wpC C A (if c = true then a else b) Q E s := by subst hc; exact h

theorem ifn_false {α : Type} {P : Prop} {i : Decidable P} {a b : Sem α} {Q : α → Shared → Prop} (hc : ¬ P) (h : wpC C A b Q E s) : wpC C A (ite P a b) Q E s := by rw [if_neg hc]; exact h
theorem ift_true {α : Type} {P : Prop} {i : Decidable P} {a b : Sem α} {Q : α → Shared → Prop} (hc : P) (h : wpC C A a Q E s) : wpC C A (ite P a b) Q E s := by rw [if_pos hc]; exact h
theorem exportsOf_wp {a : Addr} {b : List UInt8} {Q : Bool → Shared → Prop} (ho : s.heap.get? a = some (bufObj b)) (h : Q false s) : wpAny C.M A (do return decide ((← Builtin.Bytes.exportsOf (.ref a)) > 0)) Q E s := by
  unfold Builtin.Bytes.exportsOf
  exact wpAny_bind (wpAny_bind (wpAny_load ho (wpAny_pure (wpAny_pure h))))
theorem code_ba_init (hC : ∀ Γ, C.ok Γ → Clean Γ) {a : Addr} {n : Int} {t : Tok} {Q : Fin → Shared → Prop} (h0 : 0 ≤ n) (hn : n.toNat ≤ lim) (ho : s.heap.get? a = some (bufObj []))
    (h : ∀ h', h'.get? a = some (bufObj (List.replicate n.toNat 0)) → Heap.SameBut a s.heap h' → Q (.done (.ret .none)) { s with heap := h' }) :
    wpC C A (Builtin.«bytearray.__init__» ⟨[.ref a, .int n t], []⟩) Q E s := by
  have hT : s.TypeIs (.ref a) "bytearray" := ⟨_, ho, rfl⟩
  unfold Builtin.«bytearray.__init__»
  refine wpC_bind (wpC_of (ownRelease_ba hT ?_))
  refine ifC_false rfl ?_
  refine wpC_bind (wpC_of_eq (ba_bind _) ?_)
  refine wpC_bind (wpC_of_eq (a := ()) rfl ?_)
  refine wpC_bind (wpC_of_eq (a := ()) rfl ?_)
  refine wpC_bind ?_
  refine wpC_bind (exported_wp hC (wpC_of (exportsOf_wp ho ?_)))
  refine ifC_false rfl ?_
  refine wpC_bind (wpC_of (writeBuf (b' := []) ho rfl (Nat.zero_le _) fun h1 e1 k1 => ?_))
  refine wpC_bind (wpC_of_eq (a := none) rfl ?_)
  refine ifC_false rfl ?_
  refine wpC_bind (wpC_pure ?_)
  refine wpC_bind (wpC_of (wpAny_specialOf (T := "int") (typeIs_int _ _ _) int_idx ?_))
  refine ifC_true rfl ?_
  refine wpC_bind (wpC_of_eq (a := .ok n) rfl ?_)
  have hl : n < 16777217 := by simp only [lim] at hn; omega
  refine ifC_false (by unfold Builtin.Bytes.fitsIndex; simp; omega) ?_
  refine ifn_false (by omega) ?_
  refine ifC_false (by simp; omega) ?_
  refine ifC_false (by unfold Builtin.Bytes.tooLong; rw [sizeLine_is]; simp; omega) ?_
  refine wpC_bind (wpC_rule ?_)
  rcases Int.lt_or_le 0 n with hp | hp
  · refine ift_true hp (wpC_bind (wpC_of (writeBuf (s := { s with heap := h1 }) (b' := List.replicate n.toNat 0) e1 (by simp) (by simpa using hn) fun h2 e2 k2 => ?_)))
    exact wpC_pure (h h2 e2 (k1.trans k2))
  · have e0 : n.toNat = 0 := by omega
    exact ifn_false (by omega) (wpC_pure (h h1 (by rw [e0]; exact e1) k1))

theorem calm_init (args : Args) : calm (.builtin "bytearray.__init__" args) = true := by show (!heldIds.contains "bytearray.__init__") = true; decide +kernel
theorem calm_typeCall (args : Args) : calm (.builtin "type.__call__" args) = true := by show (!heldIds.contains "type.__call__") = true; decide +kernel

theorem codeC_builtin {id : String} {args : Args} {b : Builtin} {R : Result → Shared → Prop} (hb : entryFor table id = some b)
    (h : wpC C (A.under (.builtin id args)) (b args) (fun fin s' => match fin with | .done f => R (.ok f) s' | .again c' => c'.quiet = true ∧ calm c' = true ∧ codeC C A c' R s') (fun e s' => R (.error e) s') s) :
    codeC C A (.builtin id args) R s := by
  refine codeC_of_tree ?_
  show wpC _ _ (match entryFor table id with | some b => b args | none => unsupported ((withoutEnding? id "#data").getD id)) _ _ s
  rw [hb]; exact h
theorem ba_call (hC : ∀ Γ, C.ok Γ → Clean Γ) {n : Int} {t : Tok} {Q : Value → Shared → Prop} (h0 : 0 ≤ n) (hn : n.toNat ≤ lim)
    (h : ∀ h', h'.get? s.heap.objs.size = some (bufObj (List.replicate n.toNat 0)) → (∀ b o, s.heap.get? b = some o → h'.get? b = some o) → Q (.ref s.heap.objs.size) { s with heap := h' }) :
    wpC C A (call (.type "bytearray") [.int n t]) Q E s := by
  refine Classical.byContradiction fun ng0 => ?_
  obtain ⟨c, tl, hmro⟩ := called_ba.mro
  refine ng0 ?_
  refine wpC_call (codeC_of_tree ?_)
  show wpC _ _ (callAny (.type "bytearray") _) _ _ _
  refine wpC_pure ⟨Code.quiet_builtin _ (by decide +kernel), calm_typeCall _, codeC_builtin F.entry_type_call ?_⟩
  rw [Around.under_plain (weight_type_call_type "bytearray" [.int n t] []) (units_type_call_type "bytearray" [.int n t] [])]
  unfold Builtin.«type.__call__»
  dsimp only
  refine ifC_false called_ba.notType ?_
  refine ifC_false called_ba.canCreate ?_
  refine wpC_bind (wpC_of_eq (typeCall_ba _) ?_)
  refine wpC_bind (wpC_of_eq hmro ?_)
  refine ifC_false rfl ?_
  refine wpC_bind (wpC_of_eq called_ba.made ?_)
  refine wpC_bind (wpC_pure ?_)
  refine wpC_bind (wpC_holding (wpC_of (wpAny_call (codeAny_mono (code_ba_new (E := fun _ _ => False) (Q₁ := fun v s' => v = .ref s.heap.objs.size ∧ s' = { s with heap := s.heap.push (bufObj []) }) _ ⟨rfl, rfl⟩) fun r s' hr => ?_))))
  cases r with
  | error e => exact hr.elim
  | ok f =>
    cases f with
    | ret v =>
      obtain ⟨rfl, rfl⟩ := hr
      have hob : (s.heap.push (bufObj [])).get? s.heap.objs.size = some (bufObj []) := Heap.get?_push_size _ rfl
      have hT : ({ s with heap := s.heap.push (bufObj []) } : Shared).TypeIs (.ref s.heap.objs.size) "bytearray" := ⟨_, hob, rfl⟩
      show wpC C A.in1 _ _ _ _
      refine wpC_bind (wpC_of (wpAny_isInstance hT sub_ba_self ?_))
      refine ifC_false rfl ?_
      refine wpC_bind (wpC_holding ?_)
      simp only [callSpecial?]
      refine wpC_bind (wpC_of (wpAny_specialOf hT slot_ba_init.lookup ?_))
      simp only [slot_ba_init.bind]
      refine wpC_holding (wpC_bind (wpC_pure (wpC_bind (wpC_call (codeC_of_tree ?_)))))
      show wpC C _ (do checkBuiltinCall "bytearray.__init__" ⟨[.ref s.heap.objs.size, .int n t], []⟩; again (.builtin "bytearray.__init__" ⟨[.ref s.heap.objs.size, .int n t], []⟩)) _ _ _
      refine wpC_bind (wpC_of (slot_ba_init.check _ _ _ _ _ _ _ _ hT (args_ba_init _ _) ?_))
      refine wpC_pure ⟨plainId_quiet slot_ba_init.plain _, calm_init _, codeC_builtin entry_ba_init ?_⟩
      refine code_ba_init hC h0 hn hob fun h' e' k' => ?_
      refine wpC_pure ?_
      refine wpC_pure (h h' e' fun b o e => ?_)
      exact k'.2 b (Nat.ne_of_lt (Heap.lt_size e)) ▸ Heap.get?_push_of_some _ e
    | _ => exact hr.elim
end Mine
end
section
open PySem PySem.W PyProof.Rows
set_option maxRecDepth 100000
namespace Mine
theorem slot_ba_setitem : PySem.Slot "bytearray" "__setitem__" "bytearray.__setitem__" :=
  .of (owner := "bytearray") (n := "__setitem__") (by rw [typeLookup_type, builtinLookup_eq_fast]; kernel_rfl) (by decide +kernel) (by decide +kernel) (by decide +kernel)
    (by first | exact .inl (by decide +kernel) | exact .inr (by decide +kernel)) (by rw [isSubtype_type]; kernel_rfl)
theorem entry_ba_setitem : entryFor table "bytearray.__setitem__" = some Builtin.«bytearray.__setitem__» := entryFor_of_tree (by kernel_rfl)
theorem args_ba_setitem (a b c : Value) : argsOk "bytearray.__setitem__" ⟨[a, b, c], []⟩ := by unfold argsOk; kernel_rfl
variable {C : Mod} {A : Around} {g : Frz} {s : Shared} {E : Value → Shared → Prop}

theorem setItem_buf {a : Addr} {b : List UInt8} {i x : Int} {t u : Tok} {Q : Unit → Shared → Prop} (ho : s.heap.get? a = some (bufObj b)) (hz : b.length ≤ lim) (h0 : 0 ≤ i) (h1 : i < b.length) (x0 : 0 ≤ x) (x1 : x < 256)
    (h : ∀ h', h'.get? a = some (bufObj (b.set i.toNat x.toNat.toUInt8)) → Heap.SameBut a s.heap h' → Q () { s with heap := h' }) : wpAny C.M A (setItem (.ref a) (.int i t) (.int x u)) Q E s := by
  have hT : s.TypeIs (.ref a) "bytearray" := ⟨_, ho, rfl⟩
  unfold setItem
  try with_reducible refine wpAny_holding ?_
  first | refine wpAny_bind (wpAny_pure ?_) | skip
  refine wpAny_bind (wpAny_sequenceKey hT (by decide) ?_)
  refine wpAny_bind (wpAny_callSpecial?_slot hT slot_ba_setitem (wpAny_call_entry slot_ba_setitem hT entry_ba_setitem ?_ (args_ba_setitem _ _ _)))
  unfold Builtin.«bytearray.__setitem__»
  have hfit : Builtin.Bytes.fitsIndex i = true := by
    unfold Builtin.Bytes.fitsIndex
    simp only [lim] at hz
    simp; omega
  show wpAny _ _ (Builtin.Bytes.subscript? (.int i t) >>= fun r => _) _ _ s
  refine wpAny_bind ?_
  unfold Builtin.Bytes.subscript?
  refine wpAny_bind (wpAny_specialOf (T := "int") (typeIs_int _ _ _) int_idx ?_)
  refine wpAny_bind (wpAny_of_eq (a := i) rfl ?_)
  show wpAny _ _ (if (!Builtin.Bytes.fitsIndex i) = true then _ else pure (some i)) _ _ s
  rw [hfit]
  refine wpAny_pure ?_
  show wpAny _ _ (Builtin.Bytes.byteValue (.int x u) >>= fun r => _) _ _ s
  refine wpAny_bind ?_
  unfold Builtin.Bytes.byteValue
  refine wpAny_bind (wpAny_of_eq (a := x) rfl ?_)
  have hx : (decide (x < 0) || decide (x ≥ 256)) = false := by simp; omega
  rw [hx]
  refine wpAny_pure ?_
  refine wpAny_bind ?_
  unfold Builtin.Bytes.payload Builtin.Bytes.payload?
  refine wpAny_bind (wpAny_bind (wpAny_load ho ?_))
  refine wpAny_pure (wpAny_pure ?_)
  have hk : seqIndex? i b.toArray.size = some i.toNat := by
    unfold seqIndex?
    simp only [List.size_toArray]
    have hn : ¬ i < 0 := by omega
    have hp : (decide (0 ≤ i) && decide (i < (b.length : Int))) = true := by simp; omega
    simp only [hn, if_false, hp, if_true]
  rw [hk]
  refine wpAny_bind (writeBuf (b' := b.set i.toNat x.toNat.toUInt8) ho (by simp) (by simpa using hz) fun h' e' k' => ?_)
  exact wpAny_pure ⟨.none, rfl, wpAny_pure (h h' e' k')⟩
end Mine
end
section
open PySem PySem.W PyProof.Rows
namespace Mine
variable {C : Mod} {k : Nat} {sc : Names} {ρ ρ' : Ct} {X : Cf C k sc} {σ σ' : Store} {p : St} {K : Store → Fl → Prop} {g g' : Frz} {s s' : Shared} {A : Around} {E : Value → Shared → Prop} {env : Env}
noncomputable def isCompE : Expr → Bool
  | .ListComp .. | .SetComp .. | .DictComp .. => true
  | _ => false
theorem swaps_plain {e : Expr} {t : Option Expr} {l : Nat} (h : isCompE e = false) (ht : t.isSome = true) : swapsWith e t l env = pure false := by
  unfold swapsWith
  cases e <;> first | rfl | cases h
theorem notVar_list (vs : List Value) (n : Nat) : NotVar (listObj vs n) := ⟨(fun _ _ q => by cases q), (fun _ q => by cases q), (fun _ q => by cases q)⟩
theorem notVar_buf (b : List UInt8) : NotVar (bufObj b) := ⟨(fun _ _ q => by cases q), (fun _ q => by cases q), (fun _ q => by cases q)⟩
noncomputable def NewOwn (C : Mod) (s : Shared) (g' : Frz) (s' : Shared) (a : Addr) : Prop := s.heap.get? a = none ∧ g' a = none ∧ a ∉ C.tabs ∧ ∃ o, s'.heap.get? a = some o ∧ NotVar o
theorem dead_of (t : Step C g s g' s') (G : Good C g s) : s.heap.get? s'.heap.objs.size = none := by
  cases e : s.heap.get? s'.heap.objs.size with
  | none => rfl
  | some o =>
    obtain ⟨o', ho'⟩ := t.alive G e
    exact absurd (Heap.lt_size ho') (Nat.lt_irrefl _)
theorem NewOwn.at (t : Step C g s g' s') (G : Good C g s) {o : Obj} {tk : Nat} (n : NotVar o) (h : (s'.heap.push o).get? s'.heap.objs.size = some o) : NewOwn C s g' { s' with heap := s'.heap.push o, toks := tk } s'.heap.objs.size := ⟨dead_of t G, t.good.new, t.good.new_tab, o, h, n⟩
noncomputable def EvS (C : Mod) (k : Nat) (sc : Names) (ρ : Ct) (e : Expr) (sl : Slot) : Prop := ∀ (X : Cx C) g s E (Q : Value → Shared → Prop), On k sc ρ X g s → (∀ v g' s' l, Step C g s g' s' → SlotOK g' s'.heap sl v l → (∀ a ∈ l, NewOwn C s g' s' a) → Q v s') → wpC C X.A (eval e X.env) Q E s
theorem es_ev {e d} (h : Ev C k sc ρ e d) : EvS C k sc ρ e (.frz d) := fun X g s E Q I q => h X g s I E Q fun v g' s' t hv => q v g' s' [] t ⟨hv, rfl⟩ fun a ha => by cases ha
theorem es_list {es ds pos} (h : EvL C k sc ρ es ds) (hl : ds.length ≤ lim) : EvS C k sc ρ (.List es pos) (.own ds) := fun X g s E Q I q =>
  wpC_List ((h X g s pos I).2.2 E _ fun vs g1 s1 t1 hv => ⟨by rw [hv.length, sizeLine_is]; exact hl, by
    have hp : (s1.heap.push (listObj vs 0)).get? s1.heap.objs.size = some (listObj vs 0) := Heap.get?_push_size _ rfl
    have t2 : Step C g1 s1 g1 { s1 with heap := s1.heap.push (listObj vs 0) } := Step.grew (tk := s1.toks) t1.good fun a x e => Heap.get?_push_of_some _ e
    refine q _ g1 _ [s1.heap.objs.size] (t1.trans t2) ⟨_, vs, 0, rfl, hp, hv, rfl⟩ fun a ha => ?_
    rw [List.mem_singleton.mp ha]
    exact NewOwn.at t1 I.gd (notVar_list _ _) hp⟩)
theorem es_nest {p p'} : EvS C k sc ρ (.List [.List [] p'] p) (.nest [] [] []) := fun X g s E Q I q => by
  refine wpC_List (wpC_items_cons (wpC_List (wpC_items_nil ⟨Nat.zero_le _, ?_⟩)))
  refine wpC_items_nil ⟨by rw [sizeLine_is]; exact Nat.le_of_ble_eq_true rfl, ?_⟩
  have G := I.gd
  have h1 : (s.heap.push (listObj [] 0)).get? s.heap.objs.size = some (listObj [] 0) := Heap.get?_push_size _ rfl
  have st : Step C g s g { s with heap := s.heap.push (listObj [] 0) } := Step.grew (tk := s.toks) G fun a x e => Heap.get?_push_of_some _ e
  have st2 : Step C g { s with heap := s.heap.push (listObj [] 0) } g { s with heap := (s.heap.push (listObj [] 0)).push (listObj [.ref s.heap.objs.size] 0) } := Step.grew (tk := s.toks) st.good fun a x e => Heap.get?_push_of_some _ e
  have z1 : (s.heap.push (listObj [] 0)).objs.size = s.heap.objs.size + 1 := Heap.size_push ..
  have ha : ((s.heap.push (listObj [] 0)).push (listObj [.ref s.heap.objs.size] 0)).get? (s.heap.push (listObj [] 0)).objs.size = some (listObj [.ref s.heap.objs.size] 0) := Heap.get?_push_size _ rfl
  refine q _ g _ [(s.heap.push (listObj [] 0)).objs.size, s.heap.objs.size] (st.trans st2) ⟨_, s.heap.objs.size, [], [], 0, [], 0, rfl, ha, Heap.get?_push_of_some _ h1, RL.nil, RL.nil, RL.nil, by rw [z1]; exact Nat.succ_ne_self _, rfl⟩ fun a hm => ?_
  rcases List.mem_cons.mp hm with rfl | hm
  · exact NewOwn.at st G (notVar_list _ _) ha
  · rw [List.mem_singleton.mp hm]
    exact ⟨Heap.get?_size _, G.new, G.new_tab, _, Heap.get?_push_of_some _ h1, notVar_list _ _⟩
theorem es_ba {fp a cp i} (h : Ev C k sc ρ a (.int i)) (hs : isStar a = false) (hf : sc.lookup ("bytearray" : Str) = some .globalImplicit) (h0 : 0 ≤ i) (hi : i.toNat ≤ lim) (hC : ∀ Γ, C.ok Γ → Clean Γ) (hm : C.mg ("bytearray" : Str) = none) (hb : C.mb ("bytearray" : Str) = some (.type "bytearray")) :
    EvS C k sc ρ (.Call (.Name "bytearray" fp) [a] [] cp) (.buf (List.replicate i.toNat 0)) := fun X g s E Q I q => by
  refine Call_NameC rfl (wpC_of <| load_bltn I.fr I.gd (I.kg hf) (by decide +kernel) hm hb ?_)
  have e : starEach [a] X.env = [(false, eval a X.env)] := by rw [starEach_plain hs]; rfl
  refine callWith_typeC (by rw [e]; rfl) ?_
  rw [e]
  refine evalArgs_plainC (spliced_consC (h X g s I E _ fun u g1 s1 st hu => spliced_nilC ?_))
  obtain ⟨t, rfl⟩ := hu
  refine ba_call hC h0 hi fun h' e' k' => ?_
  have st2 : Step C g1 s1 g1 { s1 with heap := h' } := Step.grew (tk := s1.toks) st.good k'
  refine q _ g1 _ [s1.heap.objs.size] (st.trans st2) ⟨_, rfl, e', rfl⟩ fun b hb => ?_
  rw [List.mem_singleton.mp hb]
  exact ⟨dead_of st I.gd, st.good.new, st.good.new_tab, _, e', notVar_buf _⟩
theorem Inv.newOwn {g' : Frz} {s' : Shared} (I : Inv X σ p) {a : Addr} (h : NewOwn C p.s g' s' a) : Ownd X g' s'.heap a := ⟨I.dead h.1, h.2⟩
theorem s_asgn {x e pp pos sl} (h : EvS C k sc (fz σ) e sl) (hx : storable sc x = true) (hc : isCompE e = false) : S1 C k sc σ (.Assign [.Name x pp] e pos) (put σ x sl) := fun X p E Q I q =>
  wpC_Assign_Name (h _ p.g p.s E _ I.on fun v g' s' l t hs hl => wpC_of <| (I.after t).store (storable_kind hx X) hs (fun a ha => I.newOwn (hl a ha)) (fun y hy a ha => I.newAd (hl a ha).1 y) fun s'' I' _ => q _ I') (swaps_plain hc rfl)
theorem load_slot (I : Inv X σ p) {x : Str} {sl : Slot} (hx : storable sc x = true) (hl : σ.lookup x = some sl) {pos : Pos} {E : Value → Shared → Prop} {Q : Value → Shared → Prop} (h : ∀ v, p.m x = some v → SlotOK p.g p.s.heap sl v (p.ad x) → Q v p.s) :
    wpC C X.A (eval (.Name x pos) X.env) Q E p.s := by
  refine Classical.byContradiction fun ng0 => ?_
  obtain ⟨v, hv, hs⟩ := I.slot x sl hl
  obtain ⟨n1, n2⟩ := storable_no hx
  refine ng0 ?_
  exact wpC_of <| wpAny_Name (load_var I.frame (by rcases storable_kind hx X with q | q <;> rw [q] <;> rfl) n2 hv (h v hv hs)) n1
theorem s_aug {x e pp pos a b} (hx : storable sc x = true) (hl : σ.lookup x = some (.frz (.str a))) (h : Ev C k sc (fz σ) e (.str b)) (hz : a.length + b.length ≤ lim) : S1 C k sc σ (.AugAssign (.Name x pp) .Add e pos) (put σ x (.frz (.str (a ++ b)))) := fun X p E Q I q => by
  refine Classical.byContradiction fun ng0 => ?_
  obtain ⟨v, hm, ⟨t, rfl⟩, hv⟩ := I.slot x _ hl
  obtain ⟨n1, n2⟩ := storable_no hx
  refine ng0 ?_
  refine wpC_AugAssign_Name (wpC_of <| load_var I.frame (by rcases storable_kind hx X with q | q <;> rw [q] <;> rfl) n2 hm ?_)
  refine h _ p.g p.s I.on E _ fun u g1 s1 st hu => ?_
  obtain ⟨t', rfl⟩ := hu
  refine wpC_of <| SB.iadd (fun t'' kk => ?_) (by rw [strLen, strLen, sizeLine_is]; exact hz)
  rw [strCat]
  exact wpC_of <| ((I.after st).after (Step.toks st.good kk)).store (sl := .frz (.str (a ++ b))) (l := []) (storable_kind hx X) ⟨⟨_, rfl⟩, rfl⟩ (fun a ha => by cases ha) (fun y _ a ha => by cases ha) fun s' I' _ => q _ I'
theorem s_assert {t m pos} (h : EvT C k sc (fz σ) t true) : S1 C k sc σ (.Assert t m pos) σ := fun X p E Q I q => wpC_Assert_holds (h _ p.g p.s I.on E _ fun v g' s' t hv => ⟨hv, q _ (I.after t)⟩)
theorem wpC_Assign_Subscript {o i pos' value pos} {Q : Flow → Shared → Prop}
    (h : wpC C A (eval value env) (fun v s₁ => wpC C A (eval o env) (fun ov s₂ => wpC C A (eval i env) (fun iv s₃ => wpC C A (setItem ov iv v) (fun _ => Q .next) E s₃) E s₂) E s₁) E s)
    (hs : swapsWith value (some (.Subscript o i pos')) pos.line env = pure false) : wpC C A (exec (.Assign [.Subscript o i pos'] value pos) env) Q E s := fun Γ p c d => by
  simp only [exec_Assign_Subscript o i pos' value pos hs, PySem.assign_Subscript, Sem.wp_bind', Sem.wp_holding, Sem.wp_cmd_standAt, Sem.wp_release, Sem.wp_pure']
  exact Sem.wp_mono C.M Γ _ (fun v p₁ s₁ h₁ => Sem.wp_mono C.M Γ _ (fun ov p₂ s₂ h₂ => Sem.wp_mono C.M Γ _ (fun iv _ s₃ h₃ => h₃ Γ _ c d)
    (fun _ _ _ h' => h') _ _ (h₂ Γ p₂ c d)) (fun _ _ _ h' => h') _ _ (h₁ Γ p₁ c d)) (fun _ _ _ h' => h') _ _ (h Γ _ c d)
theorem Inv.turn1 (I : Inv X σ p) {x : Str} {v : Value} {sl' : Slot} {a : Addr} {h' : Heap} (hm : p.m x = some v) (ha : a ∈ p.ad x) (hk : ∀ c o, c ≠ a → p.s.heap.get? c = some o → h'.get? c = some o) {o : Obj} (ho : h'.get? a = some o) (no : NotVar o)
    (hs : SlotOK p.g h' sl' v (p.ad x)) : Inv X (put σ x sl') ⟨p.g, { p.s with heap := h' }, p.m, updAd p.ad x (p.ad x)⟩ := by
  refine Classical.byContradiction fun ng0 => ?_
  obtain ⟨o1, o2, o3, _⟩ := I.own x a ha
  refine ng0 ?_
  refine I.turnOwn (tk := p.s.toks) hm (fun c o na e => hk c o (fun z => na (z ▸ ha)) e) p.g.le_refl (fun b h1 h2 => absurd h1 h2) (StepB.upd (X := fun c => c = a) (tk := p.s.toks) I.good (fun c q => q ▸ ⟨o2, o3⟩) hk).good hs (fun c hc => .inl hc) fun c hc => ?_
  by_cases q : c = a
  · exact q ▸ ⟨o, ho, no⟩
  · refine Classical.byContradiction fun ng0 => ?_
    obtain ⟨_, _, _, o', h1, h2⟩ := I.own x c hc
    refine ng0 ?_
    exact ⟨o', hk c o' q h1, h2⟩
theorem s_setb {x i v pp p' p'' b} {u j : Int} (hx : storable sc x = true) (hl : σ.lookup x = some (.buf b)) (hc : isCompE v = false) (hv : Ev C k sc (fz σ) v (.int u)) (hi : Ev C k sc (fz σ) i (.int j)) (u0 : 0 ≤ u) (u1 : u < 256) (j0 : 0 ≤ j) (j1 : j < b.length) (hz : b.length ≤ lim) :
    S1 C k sc σ (.Assign [.Subscript (.Name x pp) i p'] v p'') (put σ x (.buf (b.set j.toNat u.toNat.toUInt8))) := fun X p E Q I q => by
  refine wpC_Assign_Subscript (hv _ p.g p.s I.on E _ fun vv g1 s1 st1 hvv => ?_) (swaps_plain hc rfl)
  refine load_slot (I.after st1) hx hl fun bv hm hs => ?_
  obtain ⟨a, rfl, ha, had⟩ := hs
  refine hi _ g1 s1 ((I.after st1).on) E _ fun iv g2 s2 st2 hiv => ?_
  have I2 := (I.after st1).after st2
  have had2 : a ∈ p.ad x := had ▸ .head _
  have ha2 := st2.keep a _ (I2.own x a had2).2.2.1 ha
  obtain ⟨t, rfl⟩ := hvv
  obtain ⟨t', rfl⟩ := hiv
  exact wpC_of <| setItem_buf ha2 hz j0 j1 u0 u1 fun h' e' k' => q _ (I2.turn1 hm had2 (fun c o ne e => (k'.2 c ne).trans e) e' (notVar_buf _) ⟨a, rfl, e', had⟩)
end Mine
end
section
open PySem PySem.W PyProof.Rows
namespace Mine
variable {C : Mod} {k : Nat} {sc : Names} {ρ ρ' : Ct} {X : Cf C k sc} {σ σ' : Store} {p : St} {K : Store → Fl → Prop} {g g' : Frz} {s s' : Shared} {A : Around} {E : Value → Shared → Prop} {env : Env}
theorem append_list {a : Addr} {vs : List Value} {n : Nat} {x : Value} {Q : Value → Shared → Prop} (ha : s.heap.get? a = some (listObj vs n)) (hz : vs.length ≤ lim)
    (h : ∀ h' n', h'.get? a = some (listObj (vs ++ [x]) n') → (∀ b o, b ≠ a → s.heap.get? b = some o → h'.get? b = some o) → Q .none { s with heap := h' }) :
    wpAny C.M A (call (.builtin "list.append") [.ref a, x]) Q E s := by
  refine wpAny_list_append_plain (items := vs.toArray) ⟨n, ha⟩ (fun h' hp hs => ?_) (by rw [List.size_toArray, sizeLine_is]; exact hz)
  obtain ⟨n', hp⟩ := hp
  exact h h' n' (by rw [hp, List.push_toArray]) fun b o hb e => hs.extBut b o hb e
theorem insert_list {a : Addr} {vs : List Value} {n : Nat} {x : Value} {u : Tok} {Q : Value → Shared → Prop} (ha : s.heap.get? a = some (listObj vs n)) (hz : vs.length ≤ lim)
    (h : ∀ h' n', h'.get? a = some (listObj (x :: vs) n') → (∀ b o, b ≠ a → s.heap.get? b = some o → h'.get? b = some o) → Q .none { s with heap := h' }) :
    wpAny C.M A (call (.builtin "list.insert") [.ref a, .int 0 u, x]) Q E s := by
  refine call_meets F.slot_list_insert ⟨_, ha, rfl⟩ F.entry_list_insert (F.args_list_insert_3 _ _ _) (PySem.AutoSeq1.list_insert_list_int_val_1 a _ n 0 u x (by decide) (by rw [List.size_toArray, sizeLine_is]; exact hz)) ⟨ha, h _ (n + 1) ?_ fun b o hb e => (Heap.SameBut.update ..).extBut b o hb e⟩
  rw [Heap.get?_update_self _ ha (by rfl)]
  simp [Obj.mapSeq]
theorem listMethod (hf : env.scope.kind = .function) {o : Expr} {f : Str} {id : String} {apos pos p : Pos} {args : List Expr} (slot : PySem.Slot "list" f id) (ty : typeOf (.builtin id) = pure (.type "method_descriptor"))
    (hi : isCall0 o = false) (hlen : decide (args.length + 0 + 0 < 30) = true) (hline : (apos.endLine == pos.line) = true) (hpl : (backTo pos (starEach args env)).all (fun x => !x.1) = true)
    (hany : (backTo pos (starEach args env)).any (·.1) = false)
    {Q : Flow → Shared → Prop} (h : wpC C A (eval o env) (fun v s1 => ∃ a vs nn, v = .ref a ∧ s1.heap.get? a = some (listObj vs nn) ∧
      wpC C A (evalArgs (.builtin id) true (backTo pos (starEach args env)) []) (fun as s2 => as.kw = [] ∧ wpC C A (call (.builtin id) (.ref a :: as.pos)) (fun v s3 => v = .none ∧ Q .next s3) E s2) E s1) E s) :
    wpC C A (exec (.Expr (.Call (.Attribute o f apos) args [] pos) p) env) Q E s := by
  refine wpC_Expr ?_ (by unfold interactive; rw [hf]; rfl)
  refine wpC_Call_method (attributeBase_plain hi) ?_ hline ?_
  · rw [hpl]
    exact hlen
  · refine wpC_mono h (fun v s1 h1 => ?_) fun _ _ x => x
    obtain ⟨a, vs, nn, rfl, ha, h1⟩ := h1
    refine ⟨"list", id, F.plainAttrs_list, slot, ty, ⟨_, ha, rfl⟩, fun b q => by injection q with q; subst q; exact ⟨_, ha, rfl⟩, ?_⟩
    refine callWith_builtinC hany (wpC_mono h1 (fun as s2 h2 => ?_) fun _ _ x => x)
    obtain ⟨ap, ak⟩ := as
    obtain ⟨rfl, h2⟩ := h2
    refine wpC_mono h2 (fun v s3 h3 => ?_) fun _ _ x => x
    obtain ⟨rfl, h3⟩ := h3
    exact h3
theorem s_app {x a pp p' apos pos xs d} (hx : storable sc x = true) (hl : σ.lookup x = some (.own xs)) (h : Ev C k sc (fz σ) a d) (hst : isStar a = false) (hz : xs.length ≤ lim) (hline : (apos.endLine == pos.line) = true) :
    S1 C k sc σ (.Expr (.Call (.Attribute (.Name x pp) "append" apos) [a] [] pos) p') (put σ x (.own (xs ++ [d]))) := fun X p E Q I q => by
  have hs : starEach [a] X.env = [(false, eval a X.env)] := by rw [starEach_plain hst]; rfl
  refine listMethod I.frame.fn slot_list_append F.type_list_append rfl rfl hline (by rw [hs]; rfl) (by rw [hs]; rfl) ?_
  refine load_slot I hx hl fun v hm hv => ?_
  obtain ⟨b, vs, nn, rfl, hb, hr, had⟩ := hv
  refine ⟨b, vs, nn, rfl, hb, ?_⟩
  rw [hs]
  refine evalArgs_plainC (spliced_consC (h _ p.g p.s I.on E _ fun u g1 s1 st hu => spliced_nilC ⟨rfl, ?_⟩))
  have I1 := I.after st
  have hin : b ∈ p.ad x := had ▸ .head _
  refine wpC_of <| append_list (st.keep b _ (I1.own x b hin).2.2.1 hb) (by rw [hr.length]; exact hz) fun h' n' ha' hk => ⟨rfl, ?_⟩
  exact q _ (I1.turn1 hm hin hk ha' (notVar_list _ _) ⟨b, _, n', rfl, ha', (hr.mono st.grow).snoc hu, had⟩)
theorem Inv.newRow (I : Inv X σ p) {x : Str} {a b : Addr} {vs ws : List Value} {na nb n' : Nat} {pv qv : List Value} {pre post : List (List D)} {h' : Heap} {tk : Nat} (hm : p.m x = some (.ref a)) (had : p.ad x = [a, b]) (hab : a ≠ b)
    (ha : p.s.heap.get? a = some (listObj ws na)) (hb : p.s.heap.get? b = some (listObj vs nb)) (hk : ∀ c o, c ≠ a → (p.s.heap.push (listObj [] 0)).get? c = some o → h'.get? c = some o) (ha' : h'.get? a = some (listObj (pv ++ .ref p.s.heap.objs.size :: qv) n'))
    (hpre : RL (p.g.put b (listObj vs nb)) (pre.map .list) pv) (hpost : RL (p.g.put b (listObj vs nb)) (post.map .list) qv) :
    Inv X (put σ x (.nest pre [] post)) ⟨p.g.put b (listObj vs nb), { p.s with heap := h', toks := tk }, p.m, updAd p.ad x [a, p.s.heap.objs.size]⟩ := by
  have G := I.good
  have hnew : (p.s.heap.push (listObj [] 0)).get? p.s.heap.objs.size = some (listObj [] 0) := Heap.get?_push_size _ rfl
  refine Classical.byContradiction fun ng0 => ?_
  obtain ⟨a1, a2, a3, _⟩ := I.own x a (had ▸ .head _)
  obtain ⟨b1, b2, b3, _⟩ := I.own x b (had ▸ .tail _ (.head _))
  have nsa : p.s.heap.objs.size ≠ a := fun z => absurd (Heap.lt_size ha) (by rw [z]; exact Nat.lt_irrefl _)
  have nsb : p.s.heap.objs.size ≠ b := fun z => absurd (Heap.lt_size hb) (by rw [z]; exact Nat.lt_irrefl _)
  have old : ∀ c o, c ≠ a → p.s.heap.get? c = some o → h'.get? c = some o := fun c o n e => hk c o n (Heap.get?_push_of_some _ e)
  have G1 : Good C p.g { p.s with heap := h', toks := tk } := (StepB.upd (X := fun z => z = a) (tk := tk) G (fun z q => q ▸ ⟨a2, a3⟩) old).good
  have hb2 := old b _ (Ne.symm hab) hb
  have hnew' : h'.get? p.s.heap.objs.size = some (listObj [] 0) := hk _ _ nsa hnew
  refine ng0 ?_
  refine I.turnOwn hm (fun z o nz e => old z o (fun zz => nz (had ▸ zz ▸ .head _)) e) (Frz.le_put b2) (fun z k1 k2 => ?_) (G1.freeze b2 hb2 b3) ⟨a, _, pv, qv, n', [], 0, rfl, ha', hnew', hpre, RL.nil, hpost, Ne.symm nsa, rfl⟩ (fun z hz => ?_) fun z hz => ?_
  · rw [put_new k1 k2, had]
    refine ⟨.tail _ (.head _), fun q => ?_⟩
    rcases List.mem_cons.mp q with q | q
    · exact hab q.symm
    · exact nsb (List.mem_singleton.mp q).symm
  · rcases List.mem_cons.mp hz with rfl | hz
    · exact .inl (had ▸ .head _)
    · rw [List.mem_singleton.mp hz]; exact .inr ⟨Heap.get?_size _, G.new, G.new_tab⟩
  · rcases List.mem_cons.mp hz with rfl | hz
    · exact ⟨_, ha', notVar_list _ _⟩
    · rw [List.mem_singleton.mp hz]; exact ⟨_, hnew', notVar_list _ _⟩
theorem RL.nil_eq {g : Frz} {vs : List Value} (h : RL g [] vs) : vs = [] := h
theorem s_row {x pp p' p'' apos pos pre cur} (hx : storable sc x = true) (hl : σ.lookup x = some (.nest pre cur [])) (hz : pre.length + 1 ≤ lim) (hline : (apos.endLine == pos.line) = true) :
    S1 C k sc σ (.Expr (.Call (.Attribute (.Name x pp) "append" apos) [.List [] p''] [] pos) p') (put σ x (.nest (pre ++ [cur]) [] [])) := fun X p E Q I q => by
  have hs : starEach [.List [] p''] X.env = [(false, eval (.List [] p'') X.env)] := rfl
  refine listMethod I.frame.fn slot_list_append F.type_list_append rfl rfl hline (by rw [hs]; rfl) (by rw [hs]; rfl) ?_
  refine load_slot I hx hl fun v hm hv => ?_
  obtain ⟨a, b, pv, qv, na, vs, nb, rfl, ha, hb, h1, h2, h3, h4, had⟩ := hv
  have q3 := h3.nil_eq
  subst q3
  refine ⟨a, _, na, rfl, ha, ?_⟩
  rw [hs]
  refine evalArgs_plainC (spliced_consC (wpC_List (wpC_items_nil ⟨Nat.zero_le _, spliced_nilC ⟨rfl, ?_⟩⟩)))
  have le := Frz.le_put (I.own x b (had ▸ .tail _ (.head _))).2.1 (o := listObj vs nb)
  refine wpC_of <| append_list (Heap.get?_push_of_some _ ha) (by rw [List.length_append, h1.length, List.length_map]; exact hz) fun h' n' ha' hk => ⟨rfl, q _ (I.newRow (tk := p.s.toks) hm had h4 ha hb hk ha' ?_ RL.nil)⟩
  rw [List.map_append]
  exact (h1.mono le).append (RL.cons ⟨b, vs, nb, rfl, Frz.put_self .., h2.mono le⟩ RL.nil)
theorem s_row0 {x pp p' p1 p'' apos pos cur post} {k2 : Nat} (hx : storable sc x = true) (hl : σ.lookup x = some (.nest [] cur post)) (hz : post.length + 1 ≤ lim) (hline : (apos.endLine == pos.line) = true) :
    S1 C k sc σ (.Expr (.Call (.Attribute (.Name x pp) "insert" apos) [.Constant (.int 0) k2 p1, .List [] p''] [] pos) p') (put σ x (.nest [] [] (cur :: post))) := fun X p E Q I q => by
  have hs : starEach [.Constant (.int 0) k2 p1, .List [] p''] X.env = [(false, eval (.Constant (.int 0) k2 p1) X.env), (false, eval (.List [] p'') X.env)] := rfl
  refine listMethod I.frame.fn F.slot_list_insert F.type_list_insert rfl rfl hline (by rw [hs]; rfl) (by rw [hs]; rfl) ?_
  refine load_slot I hx hl fun v hm hv => ?_
  obtain ⟨a, b, pv, qv, na, vs, nb, rfl, ha, hb, h1, h2, h3, h4, had⟩ := hv
  have q1 := h1.nil_eq
  subst q1
  refine ⟨a, _, na, rfl, ha, ?_⟩
  rw [hs]
  refine evalArgs_plainC (spliced_consC ?_)
  refine wpC_of <| wpAny_Constant_int (k := k2) (pos := p1) (spliced_consC ?_)
  refine wpC_List (wpC_items_nil ⟨Nat.zero_le _, spliced_nilC ⟨rfl, ?_⟩⟩)
  have le := Frz.le_put (I.own x b (had ▸ .tail _ (.head _))).2.1 (o := listObj vs nb)
  refine wpC_of <| insert_list (s := { p.s with heap := p.s.heap.push (listObj [] 0), toks := p.s.toks + 1 }) (Heap.get?_push_of_some _ ha) (by show (Value.ref b :: qv).length ≤ lim; rw [List.length_cons, h3.length, List.length_map]; exact hz) fun h' n' ha' hk => ⟨rfl, q _ (I.newRow (tk := p.s.toks + 1) (pv := []) (qv := .ref b :: qv) hm had h4 ha hb hk ha' RL.nil ?_)⟩
  rw [List.map_cons]
  exact RL.cons ⟨b, vs, nb, rfl, Frz.put_self .., h2.mono le⟩ (h3.mono le)
theorem Inv.turnRow (I : Inv X σ p) {x : Str} {v : Value} {sl' : Slot} {a b : Addr} {h' : Heap} (hm : p.m x = some v) (had : p.ad x = [a, b]) (hk : ∀ c o, c ≠ b → p.s.heap.get? c = some o → h'.get? c = some o) {o : Obj} (ho : h'.get? b = some o) (no : NotVar o)
    (hs : SlotOK p.g h' sl' v [a, b]) : Inv X (put σ x sl') ⟨p.g, { p.s with heap := h' }, p.m, updAd p.ad x (p.ad x)⟩ := I.turn1 hm (had ▸ .tail _ (.head _)) hk ho no (had ▸ hs)
theorem s_last {x a pp p' p1 p2 p3 apos pos pre cur d} {kk : Nat} (hx : storable sc x = true) (hl : σ.lookup x = some (.nest pre cur [])) (h : Ev C k sc (fz σ) a d) (hst : isStar a = false) (hz : cur.length ≤ lim) (hz2 : pre.length ≤ lim) (hline : (apos.endLine == pos.line) = true) :
    S1 C k sc σ (.Expr (.Call (.Attribute (.Subscript (.Name x pp) (.UnaryOp .USub (.Constant (.int 1) kk p1) p2) p3) "append" apos) [a] [] pos) p') (put σ x (.nest pre (cur ++ [d]) [])) := fun X p E Q I q => by
  have hs : starEach [a] X.env = [(false, eval a X.env)] := by rw [starEach_plain hst]; rfl
  refine listMethod I.frame.fn slot_list_append F.type_list_append rfl rfl hline (by rw [hs]; rfl) (by rw [hs]; rfl) ?_
  refine Subscript_C (load_slot I hx hl fun v hm hv => ?_)
  obtain ⟨b, c, pv, qv, na, vs, nc, rfl, hb, hc, h1, h2, h3, h4, had⟩ := hv
  have q3 := h3.nil_eq
  subst q3
  have zl : pv.length ≤ lim := by rw [h1.length, List.length_map]; exact hz2
  refine wpC_UnaryOp (wpC_of <| wpAny_Constant_int (wpC_of <| P.neg_int ?_))
  have L : p.s.heap.IsList b (pv ++ [Value.ref c]).toArray := ⟨_, hb, rfl, _, rfl⟩
  refine wpC_of <| tail_sound (s := { p.s with toks := _ }) L.typeIs slot_list_getitem.lookup ?_
  have z0 : ((pv ++ [Value.ref c]).toArray.size : Int) = pv.length + 1 := by rw [List.size_toArray, List.length_append]; rfl
  refine wpAny_getItem_list_neg (s := { p.s with toks := _ }) L (by decide) (by rw [z0]; omega) (by decide) (x := .ref c) (by
    have z : (-1 + ((pv ++ [Value.ref c]).toArray.size : Int)).toNat = pv.length := by rw [z0]; omega
    rw [z]; simp) ?_
  have st0 : Step C p.g p.s p.g { p.s with toks := p.s.toks + 1 + 1 } := Step.toks I.good _
  refine ⟨c, vs, nc, rfl, hc, ?_⟩
  rw [hs]
  have I0 := I.after st0
  refine evalArgs_plainC (spliced_consC (h _ p.g _ (I0.on) E _ fun u g1 s1 st hu => spliced_nilC ⟨rfl, ?_⟩))
  have I1 := I0.after st
  have hb1 := st.keep b _ (I1.own x b (had ▸ .head _)).2.2.1 (show ({ p.s with toks := p.s.toks + 1 + 1 } : Shared).heap.get? b = _ from hb)
  have hc1 := st.keep c _ (I1.own x c (had ▸ .tail _ (.head _))).2.2.1 (show ({ p.s with toks := p.s.toks + 1 + 1 } : Shared).heap.get? c = _ from hc)
  exact wpC_of <| append_list hc1 (by rw [h2.length]; exact hz) fun h' n' hc' hk => ⟨rfl, q _ (I1.turnRow hm had hk hc' (notVar_list _ _) ⟨b, c, pv, [], na, _, n', rfl, hk b _ h4 hb1, hc', h1.mono st.grow, (h2.mono st.grow).snoc hu, RL.nil, h4, rfl⟩)⟩
theorem s_ins {x a pp p' p1 p2 p3 apos pos cur post d} {k1 k2 : Nat} (hx : storable sc x = true) (hl : σ.lookup x = some (.nest [] cur post)) (h : Ev C k sc (fz σ) a d) (hst : isStar a = false) (hz : cur.length ≤ lim) (hline : (apos.endLine == pos.line) = true) :
    S1 C k sc σ (.Expr (.Call (.Attribute (.Subscript (.Name x pp) (.Constant (.int 0) k1 p1) p3) "insert" apos) [.Constant (.int 0) k2 p2, a] [] pos) p') (put σ x (.nest [] (d :: cur) post)) := fun X p E Q I q => by
  have hs : starEach [.Constant (.int 0) k2 p2, a] X.env = [(false, eval (.Constant (.int 0) k2 p2) X.env), (false, eval a X.env)] := by rw [starEach_plain rfl, starEach_plain hst]; rfl
  refine listMethod I.frame.fn F.slot_list_insert F.type_list_insert rfl rfl hline (by rw [hs]; rfl) (by rw [hs]; rfl) ?_
  refine Subscript_C (load_slot I hx hl fun v hm hv => ?_)
  obtain ⟨b, c, pv, qv, na, vs, nc, rfl, hb, hc, h1, h2, h3, h4, had⟩ := hv
  have q1 := h1.nil_eq
  subst q1
  refine wpC_of <| wpAny_Constant_int ?_
  have L : p.s.heap.IsList b (Value.ref c :: qv).toArray := ⟨_, hb, rfl, _, rfl⟩
  refine wpC_of <| tail_sound (s := { p.s with toks := _ }) L.typeIs slot_list_getitem.lookup ?_
  refine wpAny_getItem_list (s := { p.s with toks := _ }) L (by decide) (by decide) (x := .ref c) rfl ?_
  refine ⟨c, vs, nc, rfl, hc, ?_⟩
  rw [hs]
  refine evalArgs_plainC (spliced_consC ?_)
  refine wpC_of <| wpAny_Constant_int (k := k2) (pos := p2) (spliced_consC ?_)
  have st0 : Step C p.g p.s p.g { p.s with toks := p.s.toks + 1 + 1 } := Step.toks I.good _
  have I0 := I.after st0
  refine h _ p.g _ (I0.on) E _ fun u g1 s1 st hu => spliced_nilC ⟨rfl, ?_⟩
  have I1 := I0.after st
  have hb1 := st.keep b _ (I1.own x b (had ▸ .head _)).2.2.1 (show ({ p.s with toks := p.s.toks + 1 + 1 } : Shared).heap.get? b = _ from hb)
  have hc1 := st.keep c _ (I1.own x c (had ▸ .tail _ (.head _))).2.2.1 (show ({ p.s with toks := p.s.toks + 1 + 1 } : Shared).heap.get? c = _ from hc)
  exact wpC_of <| insert_list hc1 (by rw [h2.length]; exact hz) fun h' n' hc' hk => ⟨rfl, q _ (I1.turnRow hm had hk hc' (notVar_list _ _) ⟨b, c, [], qv, na, _, n', rfl, hk b _ h4 hb1, hc', RL.nil, RL.cons hu (h2.mono st.grow), h3.mono st.grow, h4, rfl⟩)⟩
end Mine
end
section
open PySem PySem.W PyProof.Rows
namespace Mine
variable {C : Mod} {k : Nat} {sc : Names} {ρ ρ' : Ct} {X : Cf C k sc} {σ σ' : Store} {p : St} {K : Store → Fl → Prop} {g g' : Frz} {s s' : Shared} {A : Around} {E : Value → Shared → Prop} {env : Env}
/-! several names at once -/
structure E4 where
  x : Str
  v : Value
  sl : Slot
  l : List Addr
noncomputable def putE (σ : Store) (es : List E4) : Store := es.foldl (fun σ e => put σ e.x e.sl) σ
noncomputable def EOk (X : Cf C k sc) (p : St) (e : E4) : Prop := storable sc e.x = true ∧ SlotOK p.g p.s.heap e.sl e.v e.l ∧ ∀ a ∈ e.l, Ownd X p.g p.s.heap a ∧ ∀ y, a ∉ p.ad y
noncomputable def Dj (e f : E4) : Prop := e.x ≠ f.x ∧ ∀ a ∈ e.l, a ∉ f.l
noncomputable def FsOk (C : Mod) (A : Around) (env : Env) : List (Value → Sem Unit) → List E4 → Prop
  | [], [] => True
  | f :: fs, e :: es => (∀ E (Q : Unit → Shared → Prop) s, wpAny C.M A (storeName env e.x e.v) Q E s → wpAny C.M A (f e.v) Q E s) ∧ FsOk C A env fs es
  | _, _ => False
theorem stores_row : ∀ {es : List E4} {fs : List (Value → Sem Unit)} {σ : Store} {p : St} {E : Value → Shared → Prop} {Q : Unit → Shared → Prop}, FsOk C X.A X.env fs es → Inv X σ p → (∀ e ∈ es, EOk X p e) → es.Pairwise Dj → (∀ p', Inv X (putE σ es) p' → Q () p'.s) →
    wpAny C.M X.A (assignInOrder fs (es.map (·.v))) Q E p.s
  | [], [], σ, p, E, Q, _, I, _, _, q => wpAny_pure (q p I)
  | e :: es, f :: fs, σ, p, E, Q, hf, I, ho, hd, q => by
    refine Classical.byContradiction fun ng0 => ?_
    obtain ⟨h1, h2, h3⟩ := ho e (.head _)
    obtain ⟨d1, d2⟩ := List.pairwise_cons.mp hd
    refine ng0 ?_
    show wpAny _ _ (holding (es.map (·.v)) (f e.v) >>= fun _ => assignInOrder fs (es.map (·.v))) Q E p.s
    refine wpAny_bind (wpAny_holding (hf.1 E _ _ (I.store (storable_kind h1 X) h2 (fun a ha => (h3 a ha).1) (fun y _ a ha => (h3 a ha).2 y) fun s' I' hkp => stores_row hf.2 I' (fun e' he' => ?_) d2 q)))
    refine Classical.byContradiction fun ng0 => ?_
    obtain ⟨k1, k2, k3⟩ := ho e' (.tail _ he')
    have kp : ∀ a ∈ e'.l, ∃ o, p.s.heap.get? a = some o ∧ s'.heap.get? a = some o ∧ NotVar o := fun a ha => by
      obtain ⟨⟨_, _, _, o, b4, b5⟩, _⟩ := k3 a ha
      exact ⟨o, b4, hkp a o b4 b5, b5⟩
    refine ng0 ?_
    refine ⟨k1, k2.mono p.g.le_refl fun a o ha e => ?_, fun a ha => ⟨?_, fun y hy => ?_⟩⟩
    · obtain ⟨o', e1, e2, _⟩ := kp a ha
      rw [e] at e1; cases e1; exact e2
    · refine Classical.byContradiction fun ng0 => ?_
      obtain ⟨o', _, e2, n⟩ := kp a ha
      refine ng0 ?_
      exact ⟨(k3 a ha).1.1, (k3 a ha).1.2.1, (k3 a ha).1.2.2.1, o', e2, n⟩
    · have hy : a ∈ (if y = e.x then e.l else p.ad y) := hy
      split at hy
      · exact (d1 e' he').2 a hy ha
      · exact (k3 a ha).2 y hy
  | [], _ :: _, _, _, _, _, hf, _, _, _, _ => hf.elim
  | _ :: _, [], _, _, _, _, hf, _, _, _, _ => hf.elim
theorem putE_front {x : Str} {sl : Slot} {z : Str} : ∀ {es : List E4} {σ : Store}, (∀ e ∈ es, x ≠ e.x) → (putE (put σ x sl) es).lookup z = if z = x then some sl else (putE σ es).lookup z
  | [], σ, _ => lookup_put x sl z σ
  | e :: es, σ, h => by
    have ne := h e (.head _)
    have sw : ∀ {τ τ' : Store}, (∀ w, τ.lookup w = τ'.lookup w) → ∀ {es : List E4} w, (putE τ es).lookup w = (putE τ' es).lookup w := fun {τ τ'} ht {es} => by
      induction es generalizing τ τ' with
      | nil => exact ht
      | cons e es ih => exact ih fun w => by rw [lookup_put, lookup_put, ht]
    show (putE (put (put σ x sl) e.x e.sl) es).lookup z = if z = x then some sl else (putE (put σ e.x e.sl) es).lookup z
    rw [← putE_front fun e' he' => h e' (.tail _ he')]
    exact sw (fun w => by
      rw [lookup_put, lookup_put, lookup_put, lookup_put]
      by_cases q : w = e.x
      · rw [if_pos q, if_neg (fun q' => ne (q'.symm.trans q)), if_pos q]
      · rw [if_neg q, if_neg q]) z
theorem putE_rev {z : Str} : ∀ {es : List E4} {σ : Store}, es.Pairwise Dj → (putE σ es.reverse).lookup z = (putE σ es).lookup z
  | [], σ, _ => rfl
  | e :: es, σ, h => by
    obtain ⟨h1, h2⟩ := List.pairwise_cons.mp h
    show _ = (putE (put σ e.x e.sl) es).lookup z
    rw [putE_front fun e' he' => (h1 e' he').1, List.reverse_cons]
    show (List.foldl _ σ (es.reverse ++ [e])).lookup z = _
    rw [List.foldl_append]
    show (put (putE σ es.reverse) e.x e.sl).lookup z = _
    rw [lookup_put, putE_rev h2]
theorem Inv.congr (I : Inv X σ p) (h : ∀ y, σ'.lookup y = σ.lookup y) : Inv X σ' p := ⟨I.same, I.grow, I.fresh, I.keep, I.notab, I.good, I.frame, fun x sl e => I.slot x sl ((h x) ▸ e), I.own, I.apart, I.loc, I.cell⟩
noncomputable def tgE (t : Str × Pos) : Expr := .Name t.1 t.2
theorem fs_assign : ∀ {tg : List (Str × Pos)} {es : List E4}, es.map (·.x) = tg.map (·.1) → FsOk C A env ((assignEach (tg.map tgE) env).map (·.2)) es
  | [], [], _ => trivial
  | t :: tg, e :: es, h => by
    injection h with h1 h2
    refine ⟨fun E Q s hq => wpAny_assign_Name (x := t.1) ?_, fs_assign h2⟩
    have h1 : e.x = t.1 := h1
    rw [← h1]; exact hq
  | [], _ :: _, h => by cases h
  | _ :: _, [], h => by cases h
theorem fs_names : ∀ {es : List E4}, FsOk C A env ((es.map (·.x)).map fun n => bindName env n) es
  | [] => trivial
  | e :: es => ⟨fun E Q s hq => wpAny_bindName hq, fs_names⟩
theorem tg_none : ∀ {tg : List (Str × Pos)}, (assignEach (tg.map tgE) env).findIdx? (·.1) = none ∧ (assignEach (tg.map tgE) env).length = tg.length
  | [] => ⟨rfl, rfl⟩
  | t :: tg => by
    have e : assignEach ((t :: tg).map tgE) env = (false, assign (tgE t) env) :: assignEach (tg.map tgE) env := rfl
    rw [e, List.findIdx?_cons, tg_none.1]
    exact ⟨rfl, congrArg Nat.succ tg_none.2⟩
theorem asg_one {ts : List Expr} {kk : Nat} {pp : Pos} {v : Value} : assignStores env v none ((assignEach [.Tuple ts kk pp] env).map (·.2)) = (assign (.Tuple ts kk pp) env v >>= fun _ => pure Flow.next) := rfl
theorem asg_rev {ns : List Str} {fs : List (Value → Sem Unit)} {v : Value} : assignStores env v (some ns) fs = (rule "assign.swapped-stores" >>= fun _ => unpackItems v ns.length none >>= fun items => assignInOrder (ns.reverse.map fun n => bindName env n) items.reverse >>= fun _ => pure Flow.next) := rfl
theorem stores {tg : List (Str × Pos)} {kk : Nat} {pp : Pos} {t : Addr} {es : List E4} {sw : Option (List Str)} (hx : es.map (·.x) = tg.map (·.1)) (hsw : sw = none ∨ sw = some (tg.map (·.1))) (I : Inv X σ p) (ht : IsTup p.s.heap t (es.map (·.v)).toArray) (ho : ∀ e ∈ es, EOk X p e) (hd : es.Pairwise Dj)
    {E : Value → Shared → Prop} {Q : Flow → Shared → Prop} (q : ∀ p', Inv X (putE σ es) p' → Q .next p'.s) : wpAny C.M X.A (assignStores X.env (.ref t) sw ((assignEach [.Tuple (tg.map tgE) kk pp] X.env).map (·.2))) Q E p.s := by
  have len : es.length = tg.length := by have := congrArg List.length hx; rwa [List.length_map, List.length_map] at this
  have up : ∀ h', Heap.ExtBut p.s.heap.objs.size p.s.heap h' → Step C p.g p.s p.g { p.s with heap := h' } := fun h' he => Step.grew (tk := p.s.toks) I.good fun a o e => he a o (Nat.ne_of_lt (Heap.lt_size e)) e
  have ok' : ∀ h', Heap.ExtBut p.s.heap.objs.size p.s.heap h' → ∀ e ∈ es, EOk X ⟨p.g, { p.s with heap := h' }, p.m, p.ad⟩ e := fun h' he e hm => by
    refine Classical.byContradiction fun ng0 => ?_
    obtain ⟨k1, k2, k3⟩ := ho e hm
    refine ng0 ?_
    exact ⟨k1, k2.mono p.g.le_refl fun a o ha e => (up h' he).keep a o (k3 a ha).1.2.2.1 e, fun a ha => ⟨(k3 a ha).1.st (up h' he), (k3 a ha).2⟩⟩
  rcases hsw with rfl | rfl
  · rw [asg_one]
    exact wpAny_bind (assign_Tuple_tuple X.rm.handled ht (by rw [tg_none.2, List.size_toArray, List.length_map, len]) tg_none.1 fun h' he => stores_row (fs_assign hx) (I.after (up h' he)) (ok' h' he) hd fun p' I' => wpAny_pure (q p' I'))
  · rw [asg_rev]
    refine wpAny_bind (wpAny_rule (wpAny_bind ?_))
    have e : (tg.map (·.1)).length = (es.map (·.v)).toArray.size := by rw [List.length_map, List.size_toArray, List.length_map, len]
    rw [e]
    refine unpackItems_tuple X.rm.handled ht fun h' he => wpAny_bind ?_
    show wpAny _ _ (assignInOrder _ (es.map (·.v)).reverse) _ _ _
    rw [← hx, ← List.map_reverse, ← List.map_reverse]
    exact stores_row fs_names (I.after (up h' he)) (fun e he' => ok' h' he e (List.mem_reverse.mp he')) (List.pairwise_reverse.mpr (hd.imp fun {a b} h => ⟨h.1.symm, fun z h1 h2 => h.2 z h2 h1⟩)) fun p' I' => wpAny_pure (q p' (I'.congr fun y => (putE_rev hd).symm))
theorem sole_plain {t e : Expr} {l : Nat} (h : isCompE e = false) : swapsWithSole [t] e l env = pure false := by
  unfold swapsWithSole
  exact swaps_plain h rfl
noncomputable def Sw (sc : Names) (tg : List (Str × Pos)) (kk : Nat) (pp : Pos) (e : Expr) : Prop := ∀ env : Env, env.scope.kind = .function → env.scope.names = sc → swappedStores [.Tuple (tg.map tgE) kk pp] e env = pure none ∨ swappedStores [.Tuple (tg.map tgE) kk pp] e env = pure (some (tg.map (·.1)))
noncomputable def frE (tg : List (Str × Pos)) (vs : List Value) (ds : List D) : List E4 := (tg.zip (vs.zip ds)).map fun t => ⟨t.1.1, t.2.1, .frz t.2.2, []⟩
theorem frE_facts : ∀ {tg : List (Str × Pos)} {vs : List Value} {ds : List D}, RL g ds vs → tg.length = ds.length → (tg.map (·.1)).Nodup → (∀ t ∈ tg, storable sc t.1 = true) → ∀ {p : St}, p.g = g →
    (frE tg vs ds).map (·.x) = tg.map (·.1) ∧ (frE tg vs ds).map (·.v) = vs ∧ (frE tg vs ds).Pairwise Dj ∧ (∀ e ∈ frE tg vs ds, e.x ∈ tg.map (·.1) ∧ EOk X p e) ∧ ∀ σ, putE σ (frE tg vs ds) = (tg.zip ds).foldl (fun σ t => put σ t.1.1 (.frz t.2)) σ
  | [], vs, [], h, _, _, _, p, _ => by
    have := h.nil_eq
    subst this
    exact ⟨rfl, rfl, .nil, (fun e he => by cases he), fun σ => rfl⟩
  | t :: tg, vs, d :: ds, h, hl, hn, hs, p, hp => by
    refine Classical.byContradiction fun ng0 => ?_
    obtain ⟨v, r, rfl, hv, hr⟩ := h
    obtain ⟨n1, n2⟩ := List.nodup_cons.mp hn
    obtain ⟨a1, a2, a3, a4, a5⟩ := frE_facts hr (Nat.succ.inj hl) n2 (fun t ht => hs t (.tail _ ht)) hp
    refine ng0 ?_
    refine ⟨congrArg (t.1 :: ·) a1, congrArg (v :: ·) a2, List.pairwise_cons.mpr ⟨fun e he => ⟨fun q => n1 ?_, fun a ha => by cases ha⟩, a3⟩, fun e he => ?_, fun σ => a5 _⟩
    · have q : t.1 = e.x := q
      show t.1 ∈ _
      rw [q]; exact (a4 e he).1
    · rcases List.mem_cons.mp he with rfl | he
      · exact ⟨.head _, hs t (.head _), ⟨hp ▸ hv, rfl⟩, fun a ha => by cases ha⟩
      · exact ⟨.tail _ (a4 e he).1, (a4 e he).2⟩
  | [], _, _ :: _, _, hl, _, _, _, _ => by cases hl
  | _ :: _, _, [], _, hl, _, _, _, _ => by cases hl
noncomputable abbrev putF (σ : Store) (tg : List (Str × Pos)) (ds : List D) : Store := (tg.zip ds).foldl (fun σ t => put σ t.1.1 (.frz t.2)) σ
theorem s_unp {tg e ds kk p1 p3} (h : Ev C k sc (fz σ) e (.tuple ds)) (hl : tg.length = ds.length) (hn : (tg.map (·.1)).Nodup) (hs : ∀ t ∈ tg, storable sc t.1 = true) (hc : isCompE e = false) (hsw : Sw sc tg kk p1 e) (he : putF σ tg ds = σ') :
    S1 C k sc σ (.Assign [.Tuple (tg.map tgE) kk p1] e p3) σ' := fun X p E Q I q => by
  subst he
  rw [arm_exec_Assign]
  refine wpC_bind (wpC_standAt (wpC_bind (wpC_of_eq (a := false) (sole_plain hc) ?_)))
  simp only [Bool.false_eq_true, if_false]
  refine wpC_bind (h _ p.g p.s I.on E _ fun v g1 s1 st hv => ?_)
  refine Classical.byContradiction fun ng0 => ?_
  obtain ⟨t, vs, nn, rfl, hg, hr⟩ := hv
  have I1 := I.after st
  obtain ⟨a1, a2, a3, a4, a5⟩ := frE_facts (X := X) hr hl hn hs (p := ⟨g1, s1, p.m, p.ad⟩) rfl
  have go : ∀ sw, (sw = none ∨ sw = some (tg.map (·.1))) → wpC C X.A (assignStores X.env (.ref t) sw ((assignEach [.Tuple (tg.map tgE) kk p1] X.env).map (·.2))) Q E s1 := fun sw hsw =>
    wpC_of <| stores a1 hsw I1 (by rw [a2]; exact R.isTup st.good.stays hg) (fun e he => (a4 e he).2) a3 fun p' I' => q p' (by rw [a5] at I'; exact I')
  refine ng0 ?_
  rcases hsw X.env I.frame.fn X.nm with h | h
  · exact wpC_bind (wpC_of_eq h (go _ (.inl rfl)))
  · exact wpC_bind (wpC_of_eq h (go _ (.inr rfl)))
end Mine
end
section
open PySem PySem.W PyProof.Rows
namespace Mine
variable {C : Mod} {k : Nat} {sc : Names} {ρ ρ' : Ct} {X : Cf C k sc} {σ σ' : Store} {p : St} {K : Store → Fl → Prop} {g g' : Frz} {s s' : Shared} {A : Around} {E : Value → Shared → Prop} {env : Env}
noncomputable abbrev Rw := Value × Slot × List Addr
noncomputable def EvSs (C : Mod) (k : Nat) (sc : Names) (ρ : Ct) (es : List Expr) (sls : List Slot) : Prop := ∀ (X : Cx C) g s pos E (Q : List Value → Shared → Prop), On k sc ρ X g s →
  (∀ g' s' (rs : List Rw), Step C g s g' s' → rs.map (·.2.1) = sls → (∀ r ∈ rs, SlotOK g' s'.heap r.2.1 r.1 r.2.2 ∧ ∀ a ∈ r.2.2, NewOwn C s g' s' a) → rs.Pairwise (fun r r' => ∀ a ∈ r.2.2, a ∉ r'.2.2) → Q (rs.map (·.1)) s') →
  wpC C X.A (spliced (backTo pos (starEach es X.env))) Q E s
theorem ss_nil : EvSs C k sc ρ [] [] := fun X g s pos E Q I q => wpC_items_nil (q g s [] (Step.refl I.gd) rfl (fun r hr => by cases hr) .nil)
theorem NewOwn.on (t : Step C g s g' s') {s₀ : Shared} {a : Addr} (h : NewOwn C s₀ g s a) : NewOwn C s₀ g' s' a :=
  let ⟨h1, h2, h3, o, h4, h5⟩ := h
  ⟨h1, (t.fresh a o h4).trans h2, h3, o, t.keep a o h3 h4, h5⟩
theorem ss_cons {e es sl sls} (h : EvS C k sc ρ e sl) (hl : EvSs C k sc ρ es sls) (hs : isStar e = false) : EvSs C k sc ρ (e :: es) (sl :: sls) := fun X g s pos E Q I q => by
  refine wpC_items_cons (h X g s E _ I fun v g1 s1 l t1 hs1 hl1 => hl X g1 s1 pos E _ (I.st t1) fun g2 s2 rs t2 e1 ok dj => ?_) (starEach_plain hs)
  refine q g2 s2 ((v, sl, l) :: rs) (t1.trans t2) (congrArg (sl :: ·) e1) (fun r hr => ?_) (List.pairwise_cons.mpr ⟨fun r hr a ha ha' => ?_, dj⟩)
  · rcases List.mem_cons.mp hr with rfl | hr
    · exact ⟨hs1.mono t2.grow fun a o ha e => t2.keep a o (hl1 a ha).2.2.1 e, fun a ha => (hl1 a ha).on t2⟩
    · refine ⟨(ok r hr).1, fun a ha => ⟨?_, ((ok r hr).2 a ha).2⟩⟩
      cases e : s.heap.get? a with
      | none => rfl
      | some o =>
        obtain ⟨o', ho'⟩ := t1.alive I.gd e
        rw [((ok r hr).2 a ha).1] at ho'; cases ho'
  · obtain ⟨_, _, _, o, h4, _⟩ := hl1 a ha
    rw [((ok r hr).2 a ha').1] at h4; cases h4
noncomputable def slE (tg : List (Str × Pos)) (rs : List Rw) : List E4 := (tg.zip rs).map fun t => ⟨t.1.1, t.2.1, t.2.2.1, t.2.2.2⟩
noncomputable abbrev putS (σ : Store) (tg : List (Str × Pos)) (sls : List Slot) : Store := (tg.zip sls).foldl (fun σ t => put σ t.1.1 t.2) σ
theorem slE_facts : ∀ {tg : List (Str × Pos)} {rs : List Rw}, tg.length = rs.length → (tg.map (·.1)).Nodup → (∀ t ∈ tg, storable sc t.1 = true) → (∀ r ∈ rs, SlotOK p.g p.s.heap r.2.1 r.1 r.2.2 ∧ ∀ a ∈ r.2.2, Ownd X p.g p.s.heap a ∧ ∀ y, a ∉ p.ad y) → rs.Pairwise (fun r r' => ∀ a ∈ r.2.2, a ∉ r'.2.2) →
    (slE tg rs).map (·.x) = tg.map (·.1) ∧ (slE tg rs).map (·.v) = rs.map (·.1) ∧ (slE tg rs).Pairwise Dj ∧ (∀ e ∈ slE tg rs, e.x ∈ tg.map (·.1) ∧ (∃ r ∈ rs, r.2.2 = e.l) ∧ EOk X p e) ∧ ∀ σ, putE σ (slE tg rs) = putS σ tg (rs.map (·.2.1))
  | [], [], _, _, _, _, _ => ⟨rfl, rfl, .nil, (fun e he => by cases he), fun σ => rfl⟩
  | t :: tg, r :: rs, hl, hn, hs, ok, dj => by
    refine Classical.byContradiction fun ng0 => ?_
    obtain ⟨n1, n2⟩ := List.nodup_cons.mp hn
    obtain ⟨d1, d2⟩ := List.pairwise_cons.mp dj
    obtain ⟨a1, a2, a3, a4, a5⟩ := slE_facts (Nat.succ.inj hl) n2 (fun t ht => hs t (.tail _ ht)) (fun r hr => ok r (.tail _ hr)) d2
    refine ng0 ?_
    refine ⟨congrArg (t.1 :: ·) a1, congrArg (r.1 :: ·) a2, List.pairwise_cons.mpr ⟨fun e he => ⟨fun q => n1 ?_, fun a ha => ?_⟩, a3⟩, fun e he => ?_, fun σ => a5 _⟩
    · have q : t.1 = e.x := q
      show t.1 ∈ _
      rw [q]; exact (a4 e he).1
    · refine Classical.byContradiction fun ng0 => ?_
      obtain ⟨r', hr', e'⟩ := (a4 e he).2.1
      refine ng0 ?_
      rw [← e']; exact d1 r' hr' a ha
    · rcases List.mem_cons.mp he with rfl | he
      · exact ⟨.head _, ⟨r, .head _, rfl⟩, hs t (.head _), (ok r (.head _)).1, (ok r (.head _)).2⟩
      · refine Classical.byContradiction fun ng0 => ?_
        obtain ⟨b1, ⟨r', hr', e'⟩, b3⟩ := a4 e he
        refine ng0 ?_
        exact ⟨.tail _ b1, ⟨r', .tail _ hr', e'⟩, b3⟩
  | [], _ :: _, hl, _, _, _, _ => by cases hl
  | _ :: _, [], hl, _, _, _, _ => by cases hl
theorem s_tup {tg es sls kk kk' p1 p2 p3} (h : EvSs C k sc (fz σ) es sls) (hl : tg.length = sls.length) (hn : (tg.map (·.1)).Nodup) (hs : ∀ t ∈ tg, storable sc t.1 = true) (hz : sls.length ≤ lim) (hsw : Sw sc tg kk p1 (.Tuple es kk' p2)) (he : putS σ tg sls = σ') :
    S1 C k sc σ (.Assign [.Tuple (tg.map tgE) kk p1] (.Tuple es kk' p2) p3) σ' := fun X p E Q I q => by
  subst he
  rw [arm_exec_Assign]
  refine wpC_bind (wpC_standAt (wpC_bind (wpC_of_eq (a := false) (sole_plain rfl) ?_)))
  simp only [Bool.false_eq_true, if_false]
  refine wpC_bind (wpC_Tuple (h _ p.g p.s p2 E _ I.on fun g1 s1 rs st e1 ok dj => ?_))
  subst e1
  rw [List.length_map] at hl hz
  refine ⟨by rw [List.length_map, sizeLine_is]; exact hz, ?_⟩
  have t2 : Step C g1 s1 g1 { s1 with heap := s1.heap.push (tupObj (rs.map (·.1)) 0) } := Step.grew (tk := s1.toks) st.good fun a x e => Heap.get?_push_of_some _ e
  have I2 := (I.after st).after t2
  refine Classical.byContradiction fun ng0 => ?_
  obtain ⟨a1, a2, a3, a4, a5⟩ := slE_facts (X := X) (p := ⟨g1, { s1 with heap := s1.heap.push (tupObj (rs.map (·.1)) 0) }, p.m, p.ad⟩) hl hn hs (fun r hr => ⟨(ok r hr).1.mono g1.le_refl fun a o _ e => Heap.get?_push_of_some _ e, fun a ha => ⟨I.newOwn (((ok r hr).2 a ha).on t2), fun y => I.newAd ((ok r hr).2 a ha).1 y⟩⟩) dj
  have go : ∀ sw, (sw = none ∨ sw = some (tg.map (·.1))) → wpC C X.A (assignStores X.env (.ref s1.heap.objs.size) sw ((assignEach [.Tuple (tg.map tgE) kk p1] X.env).map (·.2))) Q E { s1 with heap := s1.heap.push (tupObj (rs.map (·.1)) 0) } := fun sw hsw =>
    wpC_of <| stores a1 hsw I2 (by rw [a2]; exact ⟨_, Heap.get?_push_size _ rfl, rfl, 0, rfl⟩) (fun e he => (a4 e he).2.2) a3 fun p' I' => q p' (by rw [a5] at I'; exact I')
  refine ng0 ?_
  rcases hsw X.env I.frame.fn X.nm with h | h
  · exact wpC_bind (wpC_of_eq h (go _ (.inl rfl)))
  · exact wpC_bind (wpC_of_eq h (go _ (.inr rfl)))
/-! loops -/
noncomputable def BF (C : Mod) (k : Nat) (sc : Names) (t : Expr) (d : D) (σ σ' : Store) : Prop := ∀ (X : Cf C k sc) p v E (Q : Unit → Shared → Prop), Inv X σ p → R p.g d v → (∀ s' m' ad', Inv X σ' ⟨p.g, s', m', ad'⟩ → Q () s') → wpAny C.M X.A (assign t X.env v) Q E p.s
theorem bf_name {x pp d} (hx : storable sc x = true) : BF C k sc (.Name x pp) d σ (put σ x (.frz d)) := fun X p v E Q I hv q =>
  wpAny_assign_Name (I.store (sl := .frz d) (v := v) (l := []) (storable_kind hx X) ⟨hv, rfl⟩ (fun a ha => by cases ha) (fun y _ a ha => by cases ha) fun s' I' _ => q _ _ _ I')
theorem bf_two {x y p1 p2 kk pp a b} (hx : storable sc x = true) (hy : storable sc y = true) : BF C k sc (.Tuple [.Name x p1, .Name y p2] kk pp) (.tuple [a, b]) σ (put (put σ x (.frz a)) y (.frz b)) := fun X p v E Q I hv q => by
  refine Classical.byContradiction fun ng0 => ?_
  obtain ⟨ta, vs, nn, rfl, hg, hr⟩ := hv
  obtain ⟨va, vb, rfl, ha, hb⟩ := RL.two hr
  refine ng0 ?_
  refine assign_Tuple_tuple X.rm.handled (R.isTup I.good.stays hg) rfl rfl fun h' he => ?_
  have st : Step C p.g p.s p.g { p.s with heap := h' } := Step.grew (tk := p.s.toks) I.good fun a o e => he a o (Nat.ne_of_lt (Heap.lt_size e)) e
  show wpAny _ _ (holding [vb] (assign (.Name x _) X.env va) >>= fun _ => holding [] (assign (.Name y _) X.env vb) >>= fun _ => pure ()) Q E _
  refine wpAny_bind (wpAny_holding (wpAny_assign_Name ((I.after st).store (sl := .frz a) (l := []) (storable_kind hx X) ⟨ha, rfl⟩ (fun a ha => by cases ha) (fun y _ a ha => by cases ha) fun s1 I1 _ => ?_)))
  exact wpAny_bind (wpAny_holding (wpAny_assign_Name (I1.store (sl := .frz b) (l := []) (storable_kind hy X) ⟨hb, rfl⟩ (fun a ha => by cases ha) (fun y _ a ha => by cases ha) fun s2 I2 _ => wpAny_pure (q _ _ _ I2))))
theorem s_while {t : Expr} {b : List Stmt} {pos : Pos} {W : Nat → Store → Prop} {F : Store → Prop} (step : ∀ n σ, W n σ → (EvT C k sc (fz σ) t false ∧ F σ) ∨ EvT C k sc (fz σ) t true ∧ Ex C k sc σ b fun σ' fl => fl = .nxt ∧ ∃ m, m < n ∧ W m σ')
    {n : Nat} (h0 : W n σ) : Es C k sc σ (.While t b [] pos) fun σ' fl => fl = .nxt ∧ F σ' := fun X p E Q I q q' => by
  have loop : ∀ (n j : Nat) (σ : Store) (p : St) (R' : Result → Shared → Prop), j ≤ n → W j σ → Inv X σ p → (∀ σ' p', Inv X σ' p' → F σ' → R' (.ok .next) p'.s) → codeC C X.A (.whileLoop t b [] X.env) R' p.s := fun n => by
    induction n with
    | zero =>
      intro j σ p R' hj hW I q
      refine codeC_of_tree ?_
      show wpC _ X.A ((whileTurn t b [] X.env).onRaise (fun x => do noteFrame x X.env; theTreesLotGoes x)) _ _ p.s
      refine wpC_noted ?_
      unfold whileTurn
      rcases step j σ hW with ⟨ht, hF⟩ | ⟨ht, hb⟩
      · refine wpC_bind (ht _ p.g p.s I.on _ _ fun v g1 s1 t1 hv => ?_)
        rw [hv]
        exact wpC_bind (wpC_execs_nil (wpC_pure (q _ _ (I.after t1) hF)))
      · refine wpC_bind (ht _ p.g p.s I.on _ _ fun v g1 s1 t1 hv => ?_)
        rw [hv]
        refine wpC_bind (hb X ⟨g1, s1, p.m, p.ad⟩ _ _ (I.after t1) (fun σ' p' J hW' => ?_) fun σ' p' d v J hW' _ => by cases hW'.1)
        refine Classical.byContradiction fun ng0 => ?_
        obtain ⟨_, m, hm, _⟩ := hW'
        refine ng0 ?_
        exact absurd hm (Nat.not_lt.mpr (Nat.le_trans hj (Nat.zero_le _)))
    | succ n ih =>
      intro j σ p R' hj hW I q
      refine codeC_of_tree ?_
      show wpC _ X.A ((whileTurn t b [] X.env).onRaise (fun x => do noteFrame x X.env; theTreesLotGoes x)) _ _ p.s
      refine wpC_noted ?_
      unfold whileTurn
      rcases step j σ hW with ⟨ht, hF⟩ | ⟨ht, hb⟩
      · refine wpC_bind (ht _ p.g p.s I.on _ _ fun v g1 s1 t1 hv => ?_)
        rw [hv]
        exact wpC_bind (wpC_execs_nil (wpC_pure (q _ _ (I.after t1) hF)))
      · refine wpC_bind (ht _ p.g p.s I.on _ _ fun v g1 s1 t1 hv => ?_)
        rw [hv]
        refine wpC_bind (hb X ⟨g1, s1, p.m, p.ad⟩ _ _ (I.after t1) (fun σ' p' J hW' => ?_) fun σ' p' d v J hW' _ => by cases hW'.1)
        refine Classical.byContradiction fun ng0 => ?_
        obtain ⟨_, m, hm, hW'⟩ := hW'
        refine ng0 ?_
        exact wpC_pure ⟨rfl, rfl, ih m σ' p' R' (Nat.le_of_lt_succ (Nat.lt_of_lt_of_le hm hj)) hW' J q⟩
  exact wpC_While (loop n n σ p _ (Nat.le_refl _) h0 I fun σ' p' I' hF => q σ' p' I' ⟨rfl, hF⟩)
end Mine
end
section
open PySem PySem.W PyProof.Rows
namespace Mine
variable {C : Mod} {k : Nat} {sc : Names} {ρ ρ' : Ct} {X : Cf C k sc} {σ σ' : Store} {p : St} {K : Store → Fl → Prop}
theorem Inv.iter_apart (I : Inv X σ p) {J : Addr} (hJ : LiveIt p.s.heap J) : (∀ x, J ∉ p.ad x) ∧ J ≠ X.env.locals ∧ ∀ x c, X.env.kindOf x = some .cell → X.env.cells.lookup x = some c → J ≠ c := by
  refine Classical.byContradiction fun ng0 => ?_
  obtain ⟨o, T, fs, ho, hc, hd, hn⟩ := hJ
  refine ng0 ?_
  refine ⟨fun x hx => ?_, fun q => ?_, fun x c hk hcl q => ?_⟩
  · refine Classical.byContradiction fun ng0 => ?_
    obtain ⟨_, _, _, o', ho', no⟩ := I.own x J hx
    rw [ho] at ho'; cases ho'
    refine ng0 ?_
    exact no.2.2 _ hd
  · obtain ⟨o', es, ep, ho', hd'⟩ := I.locl
    rw [← q, ho] at ho'; cases ho'; rw [hd] at hd'; cases hd'
  · obtain ⟨o', v, ho', hd'⟩ := I.celll hk hcl
    rw [← q, ho] at ho'; cases ho'; rw [hd] at hd'; cases hd'
theorem Inv.turn (I : Inv X σ p) {J : Addr} (hJ : LiveIt p.s.heap J) (gJ : p.g J = none) (tJ : J ∉ C.tabs) (bJ : X.B J = none) {h' : Heap} {tk : Nat} (hk : ∀ a o, a ≠ J → p.s.heap.get? a = some o → h'.get? a = some o) :
    Inv X σ ⟨p.g, { p.s with heap := h', toks := tk }, p.m, p.ad⟩ := by
  refine Classical.byContradiction fun ng0 => ?_
  obtain ⟨i1, i2, i3⟩ := I.iter_apart hJ
  have st : StepB C (fun a => a = J) p.g p.s p.g { p.s with heap := h', toks := tk } := StepB.upd I.good (fun a q => q ▸ ⟨gJ, tJ⟩) hk
  obtain ⟨oj, T, fs, hoj, _, hd, _⟩ := id hJ
  refine ng0 ?_
  refine ⟨?_, I.grow, I.fresh, fun a o e => hk a o (fun q => by rw [q, bJ] at e; cases e) (I.keep a o e), I.notab, st.good, I.frame.keepA hk hoj i2 (fun v q => by rw [hd] at q; cases q), fun x sl h => ?_, fun x a ha => ?_, I.apart, I.loc, I.cell⟩
  · refine Classical.byContradiction fun ng0 => ?_
    obtain ⟨h, t, e⟩ := I.same
    refine ng0 ?_
    exact ⟨h', tk, by show ({ p.s with heap := h', toks := tk } : Shared) = _; rw [e]⟩
  · refine Classical.byContradiction fun ng0 => ?_
    obtain ⟨v, hv, hs⟩ := I.slot x sl h
    refine ng0 ?_
    exact ⟨v, hv, hs.mono p.g.le_refl fun a o ha e => hk a o (fun q => i1 x (q ▸ ha)) e⟩
  · refine Classical.byContradiction fun ng0 => ?_
    obtain ⟨b1, b2, b3, o, b4, b5⟩ := I.own x a ha
    refine ng0 ?_
    exact ⟨b1, b2, b3, o, hk a o (fun q => i1 x (q ▸ ha)) b4, b5⟩
noncomputable def Cf.plus (X : Cf C k sc) (g : Frz) (J : Addr) (oJ : Obj) : Cf C k sc := ⟨X.B.put J oJ, g, X.s₀, X.env, X.A, X.nm, X.rm, X.top⟩
theorem plus_B {J a : Addr} {oJ o : Obj} (bJ : X.B J = none) (e : X.B a = some o) : (X.B.put J oJ) a = some o := by
  unfold Frz.put; rw [if_neg (fun q => by rw [q, bJ] at e; cases e)]; exact e
theorem plus_none {J a : Addr} {oJ : Obj} (e : X.B a = none) (n : a ≠ J) : (X.B.put J oJ) a = none := by unfold Frz.put; rw [if_neg n]; exact e
theorem plus_down {J a : Addr} {oJ : Obj} (bJ : X.B J = none) (e : (X.B.put J oJ) a = none) : X.B a = none := by
  cases e' : X.B a with
  | none => rfl
  | some o => rw [plus_B bJ e'] at e; cases e
theorem Inv.up (I : Inv X σ p) {J : Addr} {oJ : Obj} (hJ : LiveIt p.s.heap J) (hoJ : p.s.heap.get? J = some oJ) (tJ : J ∉ C.tabs) : Inv (X.plus p.g J oJ) σ p := by
  refine Classical.byContradiction fun ng0 => ?_
  obtain ⟨a1, a2, a3⟩ := I.iter_apart hJ
  refine ng0 ?_
  refine ⟨I.same, p.g.le_refl, fun _ _ _ => rfl, fun a o e => ?_, fun a o e => ?_, I.good, I.frame, I.slot, fun x a ha => ?_, I.apart, ⟨plus_none I.loc.1 (Ne.symm a2), I.loc.2⟩, fun x c hk hc => ⟨plus_none (I.cell x c hk hc).1 (Ne.symm (a3 x c hk hc)), (I.cell x c hk hc).2⟩⟩
  · have e : (X.B.put J oJ) a = some o := e
    unfold Frz.put at e
    split at e
    · rename_i q; cases e; rw [q]; exact hoJ
    · exact I.keep a o e
  · have e : (X.B.put J oJ) a = some o := e
    unfold Frz.put at e
    split at e
    · rename_i q; rw [q]; exact tJ
    · exact I.notab a o e
  · obtain ⟨h1, h2⟩ := I.own x a ha
    exact ⟨plus_none h1 fun q => a1 x (q ▸ ha), h2⟩
theorem Inv.down {g : Frz} {p' : St} {J : Addr} {oJ : Obj} (bJ : X.B J = none) (h1 : X.g₀.le g) (h2 : ∀ a o, X.B a = some o → g a = X.g₀ a) (I : Inv (X.plus g J oJ) σ p') : Inv X σ p' :=
  ⟨I.same, Frz.le_trans h1 I.grow, fun a o e => (I.fresh a o (plus_B bJ e)).trans (h2 a o e), fun a o e => I.keep a o (plus_B bJ e), fun a o e => I.notab a o (plus_B bJ e), I.good, I.frame, I.slot, fun x a ha => ⟨plus_down bJ (I.own x a ha).1, (I.own x a ha).2⟩, I.apart,
    ⟨plus_down bJ I.loc.1, I.loc.2⟩, fun x c hk hc => ⟨plus_down bJ (I.cell x c hk hc).1, (I.cell x c hk hc).2⟩⟩
theorem s_for {t it : Expr} {b : List Stmt} {pos : Pos} {d : D} {items : List D} {W : Nat → Store → Prop} (hit : Ev C k sc (fz σ) it d) (hi : Itb d items) (hset : isSet it = false) (h0 : W 0 σ)
    (step : ∀ i d, items[i]? = some d → ∀ σ, W i σ → ∃ σ1, BF C k sc t d σ σ1 ∧ Ex C k sc σ1 b fun σ' fl => fl = .nxt ∧ W (i + 1) σ') : Es C k sc σ (.For t it b [] pos) fun σ' fl => fl = .nxt ∧ W items.length σ' := fun X p E Q I q q' => by
  have hfold : ∀ x, foldedSetIterable it X.env x = pure x := fun x => by
    unfold foldedSetIterable
    cases it <;> first | rfl | cases hset
  refine wpC_For (hit _ p.g p.s I.on E _ fun v g1 s1 t1 hv => ?_) hfold
  refine wpC_of <| hi _ _ _ _ _ _ _ t1.good hv fun o tk hfr hI1 => ?_
  have t2 : Step C g1 s1 g1 { s1 with heap := s1.heap.push o, toks := tk } := Step.grew t1.good fun a x e => Heap.get?_push_of_some o e
  have tJ := t1.good.new_tab
  have gJ : g1 s1.heap.objs.size = none := t1.good.new
  have bJ : X.B s1.heap.objs.size = none := (I.after t1).dead (Heap.get?_size _)
  generalize s1.heap.objs.size = J at hI1 tJ bJ gJ ⊢
  have loop : ∀ (j i : Nat) (σ : Store) (p : St) (R' : Result → Shared → Prop), items.length = i + j → W i σ → Inv X σ p → Itr C p.g J items i p.s.heap → p.g J = none → (∀ σ' p', Inv X σ' p' → W items.length σ' → R' (.ok .next) p'.s) → codeC C X.A (.forLoop t (.ref J) b [] X.env) R' p.s := fun j => by
    induction j with
    | zero =>
      intro i σ p R' hj hW I hI gJ q
      have hj' : i = items.length := hj.symm
      subst hj'
      refine codeC_of_tree ?_
      show wpC _ X.A ((forTurn t (.ref J) b [] X.env).onRaise (fun x => do noteFrame x X.env; theTreesLotGoes x)) _ _ p.s
      refine wpC_noted ?_
      unfold forTurn
      refine wpC_bind (wpC_standAt (wpC_bind (wpC_onRaise (wpC_of <| hI.done X.rm.handled fun h' tk hk => ?_))))
      exact wpC_pure ⟨rfl, rfl, codeC_block (wpC_execs_nil (q _ _ (I.turn (tk := tk) hI.live gJ tJ bJ hk) hW))⟩
    | succ j ih =>
      intro i σ p R' hj hW I hI gJ q
      have hlt : i < items.length := hj ▸ Nat.lt_add_of_pos_right (Nat.succ_pos j)
      refine codeC_of_tree ?_
      show wpC _ X.A ((forTurn t (.ref J) b [] X.env).onRaise (fun x => do noteFrame x X.env; theTreesLotGoes x)) _ _ p.s
      refine wpC_noted ?_
      unfold forTurn
      refine wpC_bind (wpC_standAt (wpC_bind (wpC_onRaise (wpC_of <| hI.next X.rm.handled (List.getElem?_eq_getElem hlt) fun v h' tk hv hI' hk => ?_))))
      have I1 := I.turn (tk := tk) hI.live gJ tJ bJ hk
      refine wpC_bind (wpC_of <| letOwned_sound hI'.live (wpC_bind ?_))
      refine Classical.byContradiction fun ng0 => ?_
      obtain ⟨oJ, hoJ⟩ := live_get hI'.live
      obtain ⟨σ1, hb, hx⟩ := step i _ (List.getElem?_eq_getElem hlt) σ hW
      refine ng0 ?_
      refine wpC_of <| hb (X.plus p.g J oJ) ⟨p.g, { p.s with heap := h', toks := tk }, p.m, p.ad⟩ v _ _ (I1.up hI'.live hoJ tJ) hv fun s2 m2 ad2 I3 => ?_
      refine wpC_bind (hx (X.plus p.g J oJ) ⟨p.g, s2, m2, ad2⟩ _ _ I3 (fun σ' p4 I4 hw => ?_) fun σ' p' d v _ hw _ => by cases hw.1)
      have hJ4 : p4.s.heap.get? J = some oJ := I4.keep J oJ (Frz.put_self ..)
      have gJ4 : p4.g J = none := (I4.fresh J oJ (Frz.put_self ..)).trans gJ
      refine wpC_pure ⟨rfl, rfl, ih (i + 1) σ' p4 R' (by rw [hj]; exact (Nat.add_right_comm i j 1).trans rfl) hw.2 (I4.down bJ I1.grow I1.fresh) (hI'.mono I4.grow I1.good.stays I4.good.stays fun o e => ?_) gJ4 q⟩
      rw [hoJ] at e; cases e; exact hJ4
  exact loop items.length 0 σ _ _ (Nat.zero_add _).symm h0 ((I.after t1).after t2) hI1 gJ fun σ' p' I' hW => q σ' p' I' ⟨rfl, hW⟩
end Mine
end
section
open PySem PySem.W PyProof.Rows
namespace Mine
variable {C : Mod} {k : Nat} {sc : Names} {A : Around} {g : Frz} {s : Shared}
structure FnOK (C : Mod) (f : Str) (a : Addr) (o : Obj) (fd : FuncData) (ps : List Str) (names : Names) (body : List Stmt) : Prop where
  mg : C.mg f = some (.ref a)
  at_ : ∀ g, C.Base g → g a = some o
  data : o.data = .func fd
  code : ∀ g s, C.Base g → Good C g s → s.heap.CodeRec fd.code fd.qualname
  body_ : fd.body = .stmts body
  bind : ∀ vals : List Value, vals.length = ps.length → bindArgs fd ⟨vals, []⟩ = pure (ps.zip vals)
  clo : fd.closure = []
  kind : fd.scope.kind = .function
  co : fd.scope.isCoroutine = false
  gen : fd.scope.isGenerator = false
  names_ : fd.scope.names = names
  nodup : ps.Nodup
  cells : ∀ x ∈ ps, names.lookup x = some .local ∨ (names.lookup x = some .cell ∧ ∀ n, ((cellsFrom n names []).lookup x).isSome = true)
  allCells : ∀ x, names.lookup x = some .cell → ∀ n, ((cellsFrom n names []).lookup x).isSome = true
  noFree : ∀ x, names.lookup x ≠ some .free
  glob : fd.globals = mainGlobals
  blt : fd.builtins = builtinsNs
  codeOf : ∀ v, C.codeOf names = some v → fd.code = v.1 ∧ fd.qualname ++ ".<locals>." = v.2

theorem bindL_lookup (kindOf : Str → Option NameKind) (x : Str) (hx : kindOf x = some .local) : ∀ (binds : List (Str × Value)) (m : Str → Option Value), (binds.map (·.1)).Nodup → bindL kindOf binds m x = ((binds.lookup x).or (m x))
  | [], m, _ => by simp [bindL]
  | (y, v) :: r, m, hn => by
    have hn' := List.nodup_cons.mp hn
    unfold bindL
    rw [bindL_lookup kindOf x hx r _ hn'.2, List.lookup_cons]
    by_cases q : x = y
    · subst q
      have : r.lookup x = none := by
        cases e : r.lookup x with
        | none => rfl
        | some u => exact absurd (List.mem_map_of_mem (f := (·.1)) (mem_of_lookup e)) hn'.1
      rw [this, if_pos hx]; simp
    · rw [beq_eq_false_iff_ne.mpr q]
      congr 1
      split
      · simp [q]
      · rfl
theorem bindC_lookup (kindOf : Str → Option NameKind) (x : Str) (hx : kindOf x ≠ some .local) : ∀ (binds : List (Str × Value)) (m : Str → Option Value), (binds.map (·.1)).Nodup → bindC kindOf binds m x = ((binds.lookup x).or (m x))
  | [], m, _ => by simp [bindC]
  | (y, v) :: r, m, hn => by
    have hn' := List.nodup_cons.mp hn
    unfold bindC
    rw [bindC_lookup kindOf x hx r _ hn'.2, List.lookup_cons]
    by_cases q : x = y
    · subst q
      have : r.lookup x = none := by
        cases e : r.lookup x with
        | none => rfl
        | some u => exact absurd (List.mem_map_of_mem (f := (·.1)) (mem_of_lookup e)) hn'.1
      rw [this, if_neg hx]; simp
    · rw [beq_eq_false_iff_ne.mpr q]
      congr 1
      split
      · rfl
      · simp [q]

theorem RL.lookup {g : Frz} : ∀ {ps : List Str} {ds : List D} {vs : List Value} {x : Str} {sl : Slot}, RL g ds vs → ds.length = ps.length → (ps.zip (ds.map Slot.frz)).lookup x = some sl →
    ∃ v d, (ps.zip vs).lookup x = some v ∧ sl = .frz d ∧ R g d v
  | [], ds, vs, x, sl, _, _, h => by simp at h
  | p :: ps, [], vs, x, sl, _, hl, h => by simp at hl
  | p :: ps, d :: ds, vs, x, sl, hr, hl, h => by
    unfold RL at hr
    obtain ⟨v, r, rfl, hv, hr⟩ := hr
    rw [List.map_cons, List.zip_cons_cons, List.lookup_cons] at h
    rw [List.zip_cons_cons, List.lookup_cons]
    cases hb : x == p with
    | true => rw [hb] at h; cases h; exact ⟨v, d, rfl, rfl, hv⟩
    | false => rw [hb] at h; exact RL.lookup hr (by simpa using hl) h

theorem Room.deeper (r : Room (k + 1) A) (env : Env) : Room k (A.deeper env) :=
  ⟨r.handled, by have := r.depth; show A.depth + 1 + k < 900; omega, by have := r.units; show A.units + 3 + 8 * k < 9000; omega⟩

theorem zip_keys {α : Type} (xs : List Str) (l : List α) (h : l.length = xs.length) : (xs.zip l).map (·.1) = xs := by
  rw [List.map_fst_zip (Nat.le_of_eq h.symm)]
theorem call_start {f : Str} {a : Addr} {o : Obj} {fd : FuncData} {ps : List Str} {names : Names} {body : List Stmt} (F : FnOK C f a o fd ps names body) {ds : List D} (hl : ds.length = ps.length) {vs : List Value} (rm : Room (k + 1) A) (ht : C.top names = true → A.frames = some []) (G : Good C g s) (hv : RL g ds vs)
    {E Q : Value → Shared → Prop} (h : ∀ (X : Cf C k names) p, Inv X (ps.zip (ds.map .frz)) p → X.g₀ = g → X.s₀ = s → X.B = (fun b => if b ∈ C.tabs then none else s.heap.get? b) → X.A = A.deeper X.env → X.env.frame = some X.env.locals →
      wpC C X.A (execs body X.env) (fun f s' => Q (match f with | .ret v => v | _ => .none) s') (fun e s' => wpAny C.M X.A (leaving X.env e) (fun _ s'' => E e s'') (fun e' s'' => E e' s'') s') p.s) : wpC C A (call (.ref a) vs) Q E s := by
  have zl := hv.length
  have hkeys : ((ps.zip vs).map (·.1)) = ps := zip_keys _ _ (by omega)
  have ho := G.stays _ _ (F.at_ g G.base)
  refine wpC_call (codeC_call_cells (binds := ps.zip vs) (by have := rm.depth; show A.depth < recursionLimit; simp only [recursionLimit]; omega) ho F.data G.nolimit (F.code g s G.base G) F.body_ (F.bind vs (by omega)) F.clo (fun x hx => ?_) (fun s₁ ic => ?_) F.co F.gen F.kind)
  · have hm : x.1 ∈ ps := by rw [← hkeys]; exact List.mem_map_of_mem hx
    rw [F.names_]
    rcases F.cells x.1 hm with h | ⟨h, h'⟩
    · exact .inl h
    · exact .inr ⟨h, h' _⟩
  · refine Classical.byContradiction fun ng0 => ?_
    obtain ⟨h1, tk1, e1, k1⟩ := ic.done
    subst e1
    have hks : ∀ x, (callEnvC fd s.heap.objs.size a).kindOf x = names.lookup x := fun x => by show fd.scope.names.lookup x = _; rw [F.names_]
    have st0 : Step C g s g { s with heap := h1, toks := tk1 } := Step.grew G k1
    have hLsz : (callEnvC fd s.heap.objs.size a).locals = s.heap.objs.size := rfl
    have tabs_old : ∀ c, c ∈ C.tabs → ∃ o, s.heap.get? c = some o := fun c hc => C.tabIn G.tab c hc
    have old_lt : ∀ c, s.heap.objs.size ≤ c → c ∉ C.tabs ∧ g c = none ∧ s.heap.get? c = none := fun c hc => by
      have hn : s.heap.get? c = none := by
        cases e : s.heap.get? c with
        | none => rfl
        | some o => exact absurd (Heap.lt_size e) (Nat.not_lt.mpr hc)
      exact ⟨fun q => (by obtain ⟨o, ho⟩ := tabs_old c q; rw [hn] at ho; cases ho), G.none hn, hn⟩
    let B : Frz := fun b => if b ∈ C.tabs then none else s.heap.get? b
    have hB : ∀ b o, B b = some o → s.heap.get? b = some o ∧ b ∉ C.tabs := fun b o e => by
      by_cases q : b ∈ C.tabs
      · simp [B, q] at e
      · simp only [B, q, if_false] at e; exact ⟨e, q⟩
    have hB' : ∀ b, s.heap.get? b = none → B b = none := fun b e => by simp only [B]; split <;> simp [e]
    let m : Str → Option Value := fun x => if (callEnvC fd s.heap.objs.size a).kindOf x = some .local then bindL (callEnvC fd s.heap.objs.size a).kindOf (ps.zip vs) (fun _ => none) x else bindC (callEnvC fd s.heap.objs.size a).kindOf (ps.zip vs) (fun _ => none) x
    have cellAt : ∀ x c, (callEnvC fd s.heap.objs.size a).cells.lookup x = some c → s.heap.objs.size < c := fun x c hc => ic.above x c (mem_of_lookup hc)
    have I : Inv (⟨B, g, s, callEnvC fd s.heap.objs.size a, A.deeper (callEnvC fd s.heap.objs.size a), F.names_, rm.deeper _, fun h => ⟨Around.frames_deeper (ht h), rfl⟩⟩ : Cf C k names) (ps.zip (ds.map .frz)) ⟨g, { s with heap := h1, toks := tk1 }, m, fun _ => []⟩ := by
      refine ⟨⟨h1, tk1, rfl⟩, g.le_refl, fun _ _ _ => rfl, fun b o e => k1 b o (hB b o e).1, fun b o e => (hB b o e).2, st0.good, ?_, fun x sl hx => ?_, fun x b hb => (by cases hb), fun x y b hb _ => (by cases hb), ⟨hB' _ (old_lt _ (Nat.le_refl _)).2.2, (old_lt _ (Nat.le_refl _)).2.1⟩, fun x c hk hc => ?_⟩
      · refine ⟨F.kind, F.glob, F.blt, ⟨_, ic.toInCall.ns, fun x hx => ?_⟩, fun x hx => ?_, (old_lt _ (Nat.le_refl _)).1, fun x y c hx hy => name_of_addr ic.apart (mem_of_lookup hx) (mem_of_lookup hy), fun v hv => F.codeOf v (by rw [← F.names_]; exact hv)⟩
        · simp only [m, hx, if_true]
        · have hx' : names.lookup x = some .cell := by
            rw [hks] at hx
            rcases hx with h | h
            · exact h
            · exact absurd h (F.noFree x)
          have hsome : ((callEnvC fd s.heap.objs.size a).cells.lookup x).isSome = true := by
            show ((cellsFrom (s.heap.objs.size + 1) fd.scope.names []).lookup x).isSome = true
            rw [F.names_]; exact F.allCells x hx' _
          obtain ⟨c, hc⟩ := Option.isSome_iff_exists.mp hsome
          refine ⟨c, hc, ?_, (old_lt c (Nat.le_of_lt (cellAt x c hc))).1⟩
          have hnl : ¬ (callEnvC fd s.heap.objs.size a).kindOf x = some .local := by rw [hks, hx']; decide
          simp only [m, hnl, if_false]
          exact ic.cell x c hc
      · obtain ⟨v, d', e1, rfl, hR⟩ := RL.lookup hv hl hx
        refine ⟨v, ?_, hR, rfl⟩
        simp only [m]
        split
        · rename_i hk
          rw [bindL_lookup _ x hk _ _ (by rw [hkeys]; exact F.nodup), e1]; rfl
        · rename_i hk
          rw [bindC_lookup _ x hk _ _ (by rw [hkeys]; exact F.nodup), e1]; rfl
      · have := old_lt c (Nat.le_of_lt (cellAt x c hc))
        exact ⟨hB' c this.2.2, this.2.1⟩
    refine ng0 ?_
    exact h ⟨B, g, s, callEnvC fd s.heap.objs.size a, A.deeper (callEnvC fd s.heap.objs.size a), F.names_, rm.deeper _, fun h => ⟨Around.frames_deeper (ht h), rfl⟩⟩ ⟨g, { s with heap := h1, toks := tk1 }, m, fun _ => []⟩ I rfl rfl rfl rfl rfl
theorem call_at {f : Str} {a : Addr} {o : Obj} {fd : FuncData} {ps : List Str} {names : Names} {body : List Stmt} (F : FnOK C f a o fd ps names body) {ds : List D} {d : D} (hl : ds.length = ps.length) {vs : List Value} (rm : Room (k + 1) A) (ht : C.top names = true → A.frames = some []) (G : Good C g s) (hv : RL g ds vs)
    (h : Ex C k names (ps.zip (ds.map .frz)) body fun _ fl => fl = .ret d) : GivesC C A g s (call (.ref a) vs) d := fun E Q q =>
  call_start F hl rm ht G hv fun X p I e1 e2 e3 _ _ => h X p _ _ I (fun _ _ _ h => by cases h) fun σ' p' d' v I' hd hR => by
    cases hd
    obtain ⟨i1, i2, i3, i4, _, i5⟩ := I'
    rw [e1] at i2
    rw [e2] at i1
    refine q v p'.g p'.s ⟨i1, i2, fun b o e => ?_, fun b o n e => ?_, i5⟩ hR
    · by_cases q' : b ∈ C.tabs
      · rw [i5.apart b q', G.apart b q']
      · have := i3 b o (by rw [e3]; exact (if_neg q').trans e)
        rw [e1] at this; exact this
    · exact i4 b o (by rw [e3]; exact (if_neg n).trans e)
theorem call_of {f : Str} {a : Addr} {o : Obj} {fd : FuncData} {ps : List Str} {names : Names} {body : List Stmt} (F : FnOK C f a o fd ps names body) {ds : List D} {d : D} (hl : ds.length = ps.length) (ht : C.top names = false)
    (h : Ex C k names (ps.zip (ds.map .frz)) body fun _ fl => fl = .ret d) : CallG C (k + 1) (.ref a) ds d := fun A g s vs rm G hv => call_at F hl rm (fun e => by rw [ht] at e; cases e) G hv h
theorem fnG_of {f : Str} {a : Addr} {o : Obj} {fd : FuncData} {ps : List Str} {names : Names} {body : List Stmt} (F : FnOK C f a o fd ps names body) {ds : List D} {d : D} (hl : ds.length = ps.length) (ht : C.top names = false)
    (h : Ex C k names (ps.zip (ds.map .frz)) body fun _ fl => fl = .ret d) : FnG C (k + 1) f ds d := ⟨a, o, fd, F.mg, F.at_, F.data, call_of F hl ht h⟩
end Mine
end
section
open PySem PySem.W PyProof.Rows
namespace Mine
open Builtin.Re
variable {C : Mod} {k : Nat}
noncomputable abbrev T := List Nat
theorem below {n m : Nat} (h : n ≤ lim) (hm : decide (lim < m) = true) : n < m := Nat.lt_of_le_of_lt h (of_decide_eq_true hm)
theorem below' {n m : Nat} (h : n ≤ lim) (hm : decide (lim ≤ m) = true) : n ≤ m := Nat.le_trans h (of_decide_eq_true hm)
theorem big {n : Nat} (h : n ≤ lim) : ¬ (n : Int) ≥ 2 ^ 63 := Int.not_le.mpr (Int.ofNat_lt.mpr (below (m := 9223372036854775808) h rfl))
/-! operators -/
theorem bi_int {a b : Int} : Bin C k .Add (.int a) (.int b) (.int (a + b)) := fun A g s u v _ G ⟨_, hu⟩ ⟨_, hv⟩ E Q q => by subst hu hv; exact P.add_int (q _ _ _ (Step.toks G _) ⟨_, rfl⟩)
theorem bi_sub {a b : Int} : Bin C k .Sub (.int a) (.int b) (.int (a - b)) := fun A g s u v _ G ⟨_, hu⟩ ⟨_, hv⟩ E Q q => by subst hu hv; exact P.sub_int (q _ _ _ (Step.toks G _) ⟨_, rfl⟩)
theorem bi_str {x y : T} (h : x.length + y.length ≤ lim) : Bin C k .Add (.str x) (.str y) (.str (x ++ y)) := fun A g s u v _ G ⟨_, hu⟩ ⟨_, hv⟩ E Q q => by
  subst hu hv
  refine PyProof.Rows.add_str (fun t' tk => ?_) h
  rw [strCat]; exact q _ _ _ (Step.toks G _) ⟨_, rfl⟩
theorem bi_list {x y : List D} (h : x.length + y.length ≤ lim) : Bin C k .Add (.list x) (.list y) (.list (x ++ y)) := fun A g s u v _ G ⟨_, vs, _, hu, hg, hr⟩ ⟨_, ws, _, hv, hg', hr'⟩ E Q q => by
  subst hu hv
  refine P.add_list (G.stays _ _ hg) (G.stays _ _ hg') ?_ (by rw [List.size_toArray, List.size_toArray, hr.length, hr'.length]; exact h)
  rw [List.append_toArray]
  exact q _ _ _ (Step.push G (listObj (vs ++ ws) 0) rfl s.toks) ⟨_, _, 0, rfl, Frz.put_self .., (hr.append hr').mono (Frz.le_put G.new)⟩
theorem bi_div {a b : Int} (h : 0 < b ∧ b < 10000) {r} (e : a.fdiv b = r) : Bin C k .FloorDiv (.int a) (.int b) (.int r) := fun A g s u v _ G ⟨_, hu⟩ ⟨_, hv⟩ E Q q => by
  subst hu hv e
  exact floordiv_int (Int.ne_of_gt h.1) (q _ _ _ (Step.toks G _) ⟨_, rfl⟩) (Or.inl (PyProof.noPylong_small (by omega)))
theorem bi_mod {a b : Int} (h : 0 < b ∧ b < 10000) {r} (e : a.fmod b = r) : Bin C k .Mod (.int a) (.int b) (.int r) := fun A g s u v _ G ⟨_, hu⟩ ⟨_, hv⟩ E Q q => by
  subst hu hv e
  exact PyProof.Rows.mod_int (Int.ne_of_gt h.1) (q _ _ _ (Step.toks G _) ⟨_, rfl⟩)
/-! comparisons -/
theorem un {A : Around} (rm : Room k A) : A.units < 9000 := Nat.lt_of_le_of_lt (Nat.le_add_right _ _) rm.units
theorem c_eq {a b : D} {r} (h : D.eqb a b = some r) : Cmp C k .Eq a b r := fun A g s u v E Q rm G ha hb q => eqb_sound h G ha hb (un rm) q
theorem c_ne {a b : D} {r} (h : D.eqb a b = some r) : Cmp C k .NotEq a b (!r) := fun A g s u v E Q rm G ha hb q => neb_sound h G ha hb (un rm) q
theorem c_lt {a b : Int} : Cmp C k .Lt (.int a) (.int b) (decide (a < b)) := fun A g s u v E Q _ G ⟨_, hu⟩ ⟨_, hv⟩ q => by subst hu hv; exact P.lt_int q
theorem c_gt {a b : Int} : Cmp C k .Gt (.int a) (.int b) (decide (b < a)) := fun A g s u v E Q _ G ⟨_, hu⟩ ⟨_, hv⟩ q => by subst hu hv; exact PyProof.Rows.gt_int q
theorem c_les {x y : T} : Cmp C k .LtE (.str x) (.str y) (!decide (y < x)) := fun A g s u v E Q _ G ⟨_, hu⟩ ⟨_, hv⟩ q => by subst hu hv; exact P.le_str q
theorem c_in {c : Nat} {y : T} : Cmp C k .In (.str [c]) (.str y) (y.contains c) := fun A g s u v E Q _ G ⟨_, hu⟩ ⟨_, hv⟩ q => by
  subst hu hv
  refine P.in_str ?_
  rw [show (⟨[c].toArray⟩ : Str) = ⟨#[c]⟩ from rfl, StrLaws.found_one, contains_dec]; exact q
theorem c_is1 : Cmp C k .Is .none .none true := fun A g s u v E Q _ G hu hv q => by cases (show _ = _ from hu); cases (show _ = _ from hv); exact is_none q
theorem c_is2 {x : T} : Cmp C k .Is (.str x) .none false := fun A g s u v E Q _ G ⟨_, hu⟩ hv q => by subst hu; cases (show _ = _ from hv); exact is_none q
theorem c_no1 : Cmp C k .IsNot .none .none false := fun A g s u v E Q _ G hu hv q => by cases (show _ = _ from hu); cases (show _ = _ from hv); exact isNot_none q
theorem c_no2 {x : T} : Cmp C k .IsNot (.str x) .none true := fun A g s u v E Q _ G ⟨_, hu⟩ hv q => by subst hu; cases (show _ = _ from hv); exact isNot_none q
/-! truth -/
theorem tr_none : Tru C .none false := fun A g s v E Q G hv q => by cases (show _ = _ from hv); exact truthy_none (q _ (Step.refl G))
theorem tr_bool {b} : Tru C (.bool b) b := fun A g s v E Q G hv q => by cases (show _ = _ from hv); exact wpAny_truthy_bool (q _ (Step.refl G))
theorem len_ne {α : Type} : ∀ l : List α, ((l.length : Int) != 0) = (!l.isEmpty)
  | [] => rfl
  | a :: l => bne_iff_ne.mpr (Int.ofNat_ne_zero.mpr (Nat.succ_ne_zero _))
theorem tr_str {x : T} (h : x.length ≤ lim) : Tru C (.str x) (!x.isEmpty) := fun A g s v E Q G ⟨_, hv⟩ q => by
  subst hv
  refine P.truthy_str (big h) ?_
  rw [strLen, len_ne]; exact q _ (Step.toks G _)
theorem tr_list {x : List D} (h : x.length ≤ lim) : Tru C (.list x) (!x.isEmpty) := fun A g s v E Q G ⟨_, vs, _, hv, hg, hr⟩ q => by
  subst hv
  refine wpAny_truthy_list (R.isList G.stays hg) (by rw [List.size_toArray, hr.length]; first | exact big h | exact below' h rfl | exact Int.ofNat_lt.mpr (below h rfl)) ?_
  rw [show (!vs.toArray.isEmpty) = !x.isEmpty by cases x <;> cases vs <;> first | rfl | cases hr.length]
  exact q _ (Step.toks G _)
theorem tr_mat {x : T} {sp} : Tru C (.mat x sp) true := fun A g s v E Q G hv q => hv.elim fun _ h => h.elim fun _ h => h.elim fun _ h => h.elim fun _ h => h.elim fun _ h => h.elim fun _ h => h.elim fun _ h => h.elim fun _ h => h.elim fun _ h => by
  rw [h.1]; exact truthy_other ⟨_, G.stays _ _ h.2.1, rfl⟩ noBool_mat noLen_mat (q _ (Step.refl G))
/-! items -/
theorem itm_list {xs : List D} {i : Nat} {d : D} (h : xs[i]? = some d) (hi : i < 9223372036854775808) : Itm (.list xs) (.int (i : Nat)) d := fun C A g s u v value slice G ⟨_, vs, _, hu, hg, hr⟩ ⟨_, hv⟩ E Q q => by
  subst hu hv
  refine Classical.byContradiction fun ng0 => ?_
  obtain ⟨w, hw, hR⟩ := hr.get h
  have L := R.isList G.stays hg
  refine ng0 ?_
  exact tail_sound L.typeIs slot_list_getitem.lookup (wpAny_getItem_list L (Int.natCast_nonneg _) (Int.ofNat_lt.mpr hi) ((List.getElem?_toArray ..).trans hw) (q _ _ _ (Step.refl G) hR))
theorem seq_nat {i n : Nat} (h : i < n) : seqIndex? (i : Int) n = some i := by
  rw [StrLaws.seqIndex_nonneg (Int.natCast_nonneg _) (Int.ofNat_lt.mpr h)]; rfl
theorem itm_tup {xs : List D} {i : Nat} {d : D} (h : xs[i]? = some d) (hl : i < 1000000) : Itm (.tuple xs) (.int (i : Nat)) d := fun C A g s u v value slice G ⟨_, vs, _, hu, hg, hr⟩ ⟨_, hv⟩ E Q q => by
  subst hu hv
  refine Classical.byContradiction fun ng0 => ?_
  obtain ⟨w, hw, hR⟩ := hr.get h
  have L := R.isTup G.stays hg
  refine ng0 ?_
  exact tail_sound L.typeIs slot_tuple_getitem.lookup (getItem_tuple L (by omega) (by omega) (seq_nat (List.getElem?_eq_some_iff.mp hw).1) ((List.getElem?_toArray ..).trans hw) (q _ _ _ (Step.refl G) hR))
theorem p_item_list {xs : List D} {i : Nat} (h : i < xs.length) (hl : xs.length ≤ lim) : Itm (.list xs) (.int (i : Nat)) xs[i] := itm_list (List.getElem?_eq_getElem h) (Nat.lt_trans h (below hl rfl))
theorem p_item_list0 {x : D} {xs : List D} : Itm (.list (x :: xs)) (.int 0) x := itm_list (i := 0) rfl (by decide)
theorem p_item_tup0 {x : D} {xs : List D} : Itm (.tuple (x :: xs)) (.int 0) x := itm_tup (i := 0) rfl (by decide)
theorem p_item_tup1 {x y : D} {xs : List D} : Itm (.tuple (x :: y :: xs)) (.int 1) y := itm_tup (i := 1) rfl (by decide)
theorem itm_bytes {b : List UInt8} {i : Int} {d : Int} (h : 0 ≤ i ∧ i < b.length ∧ b.length ≤ lim) (e : ((b.getD i.toNat 0).toNat : Int) = d) : Itm (.bytes b) (.int i) (.int d) := fun C A g s u v value slice G ⟨_, hu⟩ ⟨_, hv⟩ E Q q => by
  subst hu hv
  exact tail_sound (PySem.W.typeIs_bytes _ _ _) FB.slot_bytes_getitem.lookup (PySem.W.getItem_bytes (below' h.2.2 rfl) h.1 h.2.1 (q _ _ _ (Step.toks G _) ⟨_, congrArg (Value.int · _) e⟩))
/-! slices -/
theorem made_post {x : Str} {t : Tok} {l u : Option (Int × Tok)} {s : Shared} {Q : Value → Shared → Prop} {z : T} (e : StrLaws.sliceText x (l.map (·.1)) (u.map (·.1)) = ⟨z.toArray⟩) (hz : z.length ≤ lim) (q0 : ∀ t, Q (.str ⟨z.toArray⟩ t) s) (q : ∀ t, Q (.str ⟨z.toArray⟩ t) { s with toks := s.toks + 1 }) : (sliceMade x t l u none).post Q s := by
  have e : (if ((1 : Int) == 1 && (slicePicked x l u none).length == x.length) = true then x else ⟨((slicePicked x l u none).filterMap (x.cps[·]?)).toArray⟩) = (⟨z.toArray⟩ : Str) := e
  show (if ((1 : Int) == 1 && (slicePicked x l u none).length == x.length) = true then Made.val (.str x t) else .str ⟨((slicePicked x l u none).filterMap (x.cps[·]?)).toArray⟩).post Q s
  cases h : ((1 : Int) == 1 && (slicePicked x l u none).length == x.length) with
  | true =>
    rw [if_pos h] at e
    subst e
    exact q0 t
  | false =>
    rw [h, if_neg Bool.false_ne_true] at e
    rw [if_neg Bool.false_ne_true, e]
    exact ⟨hz, q _⟩
theorem slc_str {x z : T} {lo hi : D} {l u : Option Int} (hl : ∀ g v, R g lo v → ∃ p : Option (Int × Tok), v = partValue p ∧ p.map (·.1) = l) (hu : ∀ g v, R g hi v → ∃ p : Option (Int × Tok), v = partValue p ∧ p.map (·.1) = u) (e : StrLaws.sliceText ⟨x.toArray⟩ l u = ⟨z.toArray⟩) (hz : z.length ≤ lim) :
    Slc (.str x) lo hi .none (.str z) := fun C A g s o vl vu vs sl value slice G ⟨t, ho⟩ h1 h2 h3 hsl E Q q => by
  obtain ⟨p1, e1, q1⟩ := hl g vl h1
  obtain ⟨p2, e2, q2⟩ := hu g vu h2
  cases (show _ = _ from h3)
  subst ho e1 e2 q1 q2
  exact tail_sound (typeIs_str _ _ _) F.slot_str_getitem.lookup (wpAny_getItem_str_slice (l := p1) (u := p2) (st := none) ⟨_, hsl, rfl, rfl⟩ rfl (made_post e hz (fun t => q _ _ _ (Step.refl G) ⟨t, rfl⟩) fun t => q _ _ _ (Step.toks G _) ⟨t, rfl⟩))
theorem pt_none (g : Frz) (v : Value) (h : R g .none v) : ∃ p : Option (Int × Tok), v = partValue p ∧ p.map (·.1) = none := ⟨none, h, rfl⟩
theorem pt_int {i : Int} (g : Frz) (v : Value) (h : R g (.int i) v) : ∃ p : Option (Int × Tok), v = partValue p ∧ p.map (·.1) = some i := let ⟨t, e⟩ := h; ⟨some (i, t), e, rfl⟩
section
variable {x : T} {xs : List D} {b : List UInt8} {n m : Nat}
theorem len_drop {α : Type} (n : Nat) (l : List α) : (l.drop n).length ≤ l.length := by rw [List.length_drop]; exact Nat.sub_le _ _
theorem tx_nm (h : n ≤ m) (h2 : m ≤ x.length) : StrLaws.sliceText ⟨x.toArray⟩ (some (n : Int)) (some (m : Int)) = ⟨((x.take m).drop n).toArray⟩ := by
  rw [StrLaws.sliceText_nat ⟨x.toArray⟩ h h2, List.drop_take]
theorem tx_to : StrLaws.sliceText ⟨x.toArray⟩ none (some (n : Int)) = ⟨(x.take n).toArray⟩ := by
  have key : ∀ m : Nat, m ≤ x.length → StrLaws.sliceText ⟨x.toArray⟩ none (some (m : Int)) = ⟨(x.take m).toArray⟩ := fun m h => by
    have := tx_nm (x := x) (Nat.zero_le m) h
    unfold StrLaws.sliceText at this ⊢
    rw [StrLaws.sliceIdx_none_lo]; exact this
  rcases Nat.le_total n x.length with h | h
  · exact key n h
  · rw [show StrLaws.sliceText ⟨x.toArray⟩ none (some (n : Int)) = _ from slice_to_beyond (x := ⟨x.toArray⟩) (Int.ofNat_le.mpr h)]
    exact (key _ (Nat.le_refl _)).trans (by rw [List.take_length, List.take_of_length_le h])
theorem tx_from : StrLaws.sliceText ⟨x.toArray⟩ (some (n : Int)) none = ⟨(x.drop n).toArray⟩ := by
  rcases Nat.le_total n x.length with h | h
  · have := tx_nm (x := x) h (Nat.le_refl _)
    rw [List.take_length] at this
    unfold StrLaws.sliceText at this ⊢
    rw [StrLaws.sliceIdx_none_hi]; exact this
  · rw [show StrLaws.sliceText ⟨x.toArray⟩ (some (n : Int)) none = _ from slice_from_beyond (x := ⟨x.toArray⟩) (Int.ofNat_le.mpr h), List.drop_eq_nil_of_le h]
theorem ss_to (h : x.length ≤ lim) : Slc (.str x) .none (.int n) .none (.str (x.take n)) := slc_str pt_none pt_int tx_to (Nat.le_trans (List.length_take_le' ..) h)
theorem ss_from (h : x.length ≤ lim) : Slc (.str x) (.int n) .none .none (.str (x.drop n)) := slc_str pt_int pt_none tx_from (Nat.le_trans (len_drop _ _) h)
theorem ss_nm (h : x.length ≤ lim) (h1 : n ≤ m) (h2 : m ≤ x.length) : Slc (.str x) (.int n) (.int m) .none (.str ((x.take m).drop n)) := slc_str pt_int pt_int (tx_nm h1 h2) (Nat.le_trans (len_drop _ _) (Nat.le_trans (List.length_take_le' ..) h))
theorem ss_one (h : x.length ≤ lim) : Slc (.str x) (.int 1) .none .none (.str (x.drop 1)) := ss_from (n := 1) h
theorem pick_rev : ((Builtin.Str.strSliceIndices none none (-1) x.length).filterMap (x.toArray[·]?)) = x.reverse := by
  rw [PyProof.Rows.picked_rev, krv_range, List.filterMap_reverse]
  exact congrArg List.reverse (krv_all x.toArray)
theorem ss_rev (h : x.length ≤ lim) : Slc (.str x) .none .none (.int (-1)) (.str x.reverse) := fun C A g s o vl vu vs sl value slice G ⟨t, ho⟩ h1 h2 ⟨t3, h3⟩ hsl E Q q => by
  cases (show _ = _ from h1); cases (show _ = _ from h2)
  subst ho h3
  refine tail_sound (typeIs_str _ _ _) F.slot_str_getitem.lookup (wpAny_getItem_str_slice (l := none) (u := none) (st := some (-1, t3)) ⟨_, hsl, rfl, rfl⟩ rfl ?_)
  have e : sliceMade ⟨x.toArray⟩ t none none (some (-1, t3)) = .str ⟨x.reverse.toArray⟩ := by
    rw [← pick_rev]; rfl
  rw [e]
  exact ⟨by rw [strLen, List.length_reverse]; exact h, q _ _ _ (Step.toks G _) ⟨_, rfl⟩⟩
theorem slc_list {xs zs : List D} {lo hi st : D} {l u t : Option Int} (hl : ∀ g v, R g lo v → IsPart v l) (hu : ∀ g v, R g hi v → IsPart v u) (ht : ∀ g v, R g st v → IsPart v t) (h0 : t ≠ some 0) (hx : xs.length ≤ lim)
    (e : ∀ g (ws : List Value), RL g xs ws → ∃ ys : List Value, slicePick ws.toArray l u t = ys.toArray ∧ RL g zs ys) : Slc (.list xs) lo hi st (.list zs) := fun C A g s o vl vu vs sl value slice G ⟨_, ws, _, ho, hg, hr⟩ h1 h2 h3 hsl E Q q => by
  subst ho
  obtain ⟨ys, e1, e2⟩ := e g ws hr
  have L := R.isList G.stays hg
  refine tail_sound L.typeIs slot_list_getitem.lookup (wpAny_getItem_list_slice L ⟨_, hsl, rfl, rfl⟩ (hl g _ h1) (hu g _ h2) (ht g _ h3) h0 ?_ (by rw [List.size_toArray, hr.length]; exact hx))
  rw [e1]
  exact q _ _ _ (Step.push G (listObj ys 0) rfl s.toks) ⟨_, _, 0, rfl, Frz.put_self .., e2.mono (Frz.le_put G.new)⟩
theorem ip_none (g : Frz) (v : Value) (h : R g .none v) : IsPart v none := by cases (show _ = _ from h); exact .none
theorem ip_int {i : Int} (g : Frz) (v : Value) (h : R g (.int i) v) : IsPart v (some i) := let ⟨t, e⟩ := h; e ▸ .int i t
theorem RL.take {g : Frz} : ∀ {ds : List D} {vs : List Value} (n : Nat), RL g ds vs → RL g (ds.take n) (vs.take n)
  | _, _, 0, _ => by rw [List.take_zero, List.take_zero]; exact RL.nil
  | [], _, n + 1, h => by cases (show _ = _ from h); exact RL.nil
  | _ :: _, _, n + 1, ⟨_, _, e, hv, hr⟩ => by subst e; exact RL.cons hv (hr.take n)
theorem RL.drop {g : Frz} : ∀ {ds : List D} {vs : List Value} (n : Nat), RL g ds vs → RL g (ds.drop n) (vs.drop n)
  | _, _, 0, h => h
  | [], _, n + 1, h => by cases (show _ = _ from h); exact RL.nil
  | _ :: _, _, n + 1, ⟨_, _, e, hv, hr⟩ => by subst e; exact hr.drop n
theorem RL.rev {g : Frz} : ∀ {ds : List D} {vs : List Value}, RL g ds vs → RL g ds.reverse vs.reverse
  | [], _, h => by cases (show _ = _ from h); exact RL.nil
  | _ :: _, _, ⟨_, _, e, hv, hr⟩ => by
    subst e
    rw [List.reverse_cons, List.reverse_cons]
    exact hr.rev.append (RL.cons hv RL.nil)
theorem kms_nat (n l : Nat) : kms_hi (some (n : Int)) l = min n l ∧ kms_lo (some (n : Int)) l = min n l := by
  unfold kms_hi kms_lo
  have h : ¬ (n : Int) < 0 := by omega
  exact ⟨(if_neg h).trans rfl, (if_neg h).trans rfl⟩
theorem sl_to (h : xs.length ≤ lim) : Slc (.list xs) .none (.int n) .none (.list (xs.take n)) := slc_list ip_none ip_int ip_none (fun e => nomatch e) h fun g ws hr => ⟨ws.take n, by
  rw [kms_pick_eq, kms_pick, (kms_nat n _).1, show kms_lo none _ = 0 from rfl, List.drop_zero, Nat.sub_zero, ← List.take_eq_take_min], hr.take n⟩
theorem sl_from (h : xs.length ≤ lim) : Slc (.list xs) (.int n) .none .none (.list (xs.drop n)) := slc_list ip_int ip_none ip_none (fun e => nomatch e) h fun g ws hr => ⟨ws.drop n, by
  rw [kms_pick_eq, kms_pick, (kms_nat n _).2, show kms_hi none ws.length = ws.length from rfl, List.take_of_length_le (by rw [List.length_drop]; exact Nat.le_refl _)]
  rcases Nat.le_total n ws.length with q | q
  · rw [Nat.min_eq_left q]
  · rw [Nat.min_eq_right q, List.drop_length, List.drop_eq_nil_of_le q], hr.drop n⟩
theorem sl_rev (h : xs.length ≤ lim) : Slc (.list xs) .none .none (.int (-1)) (.list xs.reverse) := slc_list ip_none ip_none ip_int (by decide) h fun g ws hr => ⟨ws.reverse, krv_pick ws.toArray, hr.rev⟩
/-! built-ins -/
theorem bl_str (h : x.length ≤ lim) : CallG C k (.builtin "len") [.str x] (.int x.length) := fun A g s vs _ G h1 E Q q => by
  obtain ⟨v, e, ⟨t, e2⟩⟩ := RL.one h1
  subst e e2
  exact wpC_of (P.len_str (big h) (q _ _ _ (Step.toks G _) ⟨s.toks + 1, rfl⟩))
theorem bl_list (h : xs.length ≤ lim) : CallG C k (.builtin "len") [.list xs] (.int xs.length) := fun A g s vs _ G h1 E Q q => by
  refine Classical.byContradiction fun ng0 => ?_
  obtain ⟨v, e, ⟨_, ws, _, e2, hg, hr⟩⟩ := RL.one h1
  subst e e2
  refine ng0 ?_
  exact wpC_of (Calls.call_len_list (R.isList G.stays hg) (by rw [List.size_toArray, hr.length]; first | exact big h | exact below' h rfl | exact Int.ofNat_lt.mpr (below h rfl)) (q _ _ _ (Step.toks G _) ⟨s.toks + 1, by rw [List.size_toArray, hr.length]⟩))
theorem bl_bytes (h : b.length ≤ lim) : CallG C k (.builtin "len") [.bytes b] (.int b.length) := fun A g s vs _ G h1 E Q q => by
  obtain ⟨v, e, ⟨t, e2⟩⟩ := RL.one h1
  subst e e2
  exact wpC_of (len_bytes (below' h rfl) (q _ _ _ (Step.toks G _) ⟨s.toks + 1, rfl⟩))
theorem p_ord {c : Nat} : CallG C k (.builtin "ord") [.str [c]] (.int c) := fun A g s vs _ G h1 E Q q => by
  obtain ⟨v, e, ⟨t, e2⟩⟩ := RL.one h1
  subst e e2
  exact wpC_of (P.ord_of_char (q _ _ _ (Step.toks G _) ⟨s.toks, rfl⟩))
theorem b_chr {c : UInt8} : CallG C k (.builtin "chr") [.int (c.toNat : Nat)] (.str [c.toNat]) := fun A g s vs _ G h1 E Q q => by
  obtain ⟨v, e, ⟨t, e2⟩⟩ := RL.one h1
  subst e e2
  have := c.toNat_lt
  exact wpC_of (P.chr_of_int (by rw [Bool.or_eq_false_iff, decide_eq_false_iff_not, decide_eq_false_iff_not]; omega) (q _ _ _ (Step.toks G _) ⟨s.toks, rfl⟩))
theorem b_max {a b : Nat} : CallG C k (.builtin "max") [.int (a : Nat), .int (b : Nat)] (.int (max a b : Nat)) := fun A g s vs rm G h1 E Q q => by
  obtain ⟨v, w, e, ⟨t, e2⟩, ⟨u, e3⟩⟩ := RL.two h1
  subst e e2 e3
  refine wpC_of (max_two_ints rm.handled fun h' tk hk => q _ _ _ (Step.grew G hk) ?_)
  by_cases p : (b : Int) > a
  · rw [if_pos p]; exact ⟨u, by rw [show max a b = b by omega]⟩
  · rw [if_neg p]; exact ⟨t, by rw [show max a b = a by omega]⟩
theorem p_range1 {b : Int} : CallG C k (.type "range") [.int b] (.rng 0 b 1) := fun A g s vs rm G h1 E Q q => by
  obtain ⟨v, e, ⟨t, e2⟩⟩ := RL.one h1
  subst e e2
  exact wpC_of (call_range_1 (q _ _ _ (Step.push G _ rfl _) ⟨_, _, _, _, rfl, Frz.put_self ..⟩))
theorem p_range3 {a b c : Int} (h : 0 < c ∧ c ≤ 1000000) : CallG C k (.type "range") [.int a, .int b, .int c] (.rng a b c) := fun A g s vs rm G h1 E Q q => by
  obtain ⟨v, w, x, e, ⟨t, e2⟩, ⟨u, e3⟩, ⟨u', e4⟩⟩ := RL.three h1
  subst e e2 e3 e4
  exact wpC_of (call_range_3 (Int.ne_of_gt h.1) (q _ _ _ (Step.push G _ rfl _) ⟨_, _, _, _, rfl, Frz.put_self ..⟩) (Or.inl (PyProof.noPylong_small (by omega))))
noncomputable def Oct (l : List Nat) : List UInt8 := l.map fun c => ((c : Nat) : Int).toNat.toUInt8
theorem b_oct {l : T} (h : ∀ c ∈ l, c < 256) (hz : l.length ≤ lim) : CallG C k (.type "bytes") [.list (l.map fun c => .int ((c : Nat) : Int))] (.bytes (Oct l)) := fun A g s vs rm G h1 E Q q => by
  obtain ⟨v, e, ⟨_, ws, _, e2, hg, hr⟩⟩ := RL.one h1
  subst e e2
  have hi : IntsAre ws (l.map fun c => ((c : Nat) : Int)) := ints_are (by rw [List.map_map]; exact hr)
  refine wpC_of (call_bytes_ints (R.isList G.stays hg) hi (fun n hn => ?_) (by rw [hi.length, List.length_map]; exact hz) rm.handled fun h' t kk hk => q _ _ _ (Step.grew G hk) ⟨t, ?_⟩)
  · obtain ⟨c, hc, e⟩ := List.mem_map.mp hn
    subst e
    exact ⟨Int.natCast_nonneg _, Int.ofNat_lt.mpr (h c hc)⟩
  · exact congrArg (fun z => Value.bytes (List.toArray z) t) (List.map_map ..)
/-! methods -/
theorem str_meth {x : T} {name : Str} {id : String} {l : List D} {r : D} (slot : PySem.Slot "str" name id) (ty : typeOf (.builtin id) = pure (.type "method_descriptor")) (h : ∀ A g s t vs, Good C g s → RL g l vs → Gives C A g s (call (.builtin id) (.str ⟨x.toArray⟩ t :: vs)) r) : MethG C k (.str x) name l r :=
  fun A g s ov _ G ⟨t, e⟩ => ⟨_, id, F.plainAttrs_str, slot, ty, e ▸ typeIs_str _ _ _, (fun _ q => nomatch e.symm.trans q), fun g' s' vs st hl => e ▸ h A g' s' t vs st.good hl⟩
theorem m_joinS {l : List T} (h : (l.map (·.length)).sum + l.length * x.length ≤ lim) : MethG C k (.str x) "join" [.list (l.map .str)] (.str (joined x l)) := str_meth F.slot_str_join F.type_str_join fun A g s t vs G h1 E Q q => by
  refine Classical.byContradiction fun ng0 => ?_
  obtain ⟨w, e, ⟨_, ws, _, e2, hg, hr⟩⟩ := RL.one h1
  obtain ⟨ts, e3, h2⟩ := strs_values hr
  subst e e2 e3
  refine ng0 ?_
  refine SC.join (R.isList G.stays hg) h2 (joinFit x l h) fun t' kk => ?_
  rw [glued_joined]
  exact q _ _ _ (Step.toks G _) ⟨t', rfl⟩
theorem m_lstrip (h : x.length ≤ lim) : MethG C k (.str x) "lstrip" [] (.str (x.dropWhile Unicode.isSpace)) := str_meth F.slot_str_lstrip F.type_str_lstrip fun A g s t vs G h1 E Q q => by
  cases (show _ = _ from h1)
  refine SC.lstrip (fun t' kk => ?_) h
  rw [lstrip_eq]
  exact q _ _ _ (Step.toks G _) ⟨t', rfl⟩
theorem m_rstrip (h : x.length ≤ lim) : MethG C k (.str x) "rstrip" [] (.str (x.reverse.dropWhile Unicode.isSpace).reverse) := str_meth F.slot_str_rstrip F.type_str_rstrip fun A g s t vs G h1 E Q q => by
  cases (show _ = _ from h1)
  refine SC.rstrip (fun t' kk => ?_) h
  rw [rstrip_eq]
  exact q _ _ _ (Step.toks G _) ⟨t', rfl⟩
theorem m_startswith {c : Nat} : MethG C k (.str x) "startswith" [.str [c]] (.bool (x.head? == some c)) := str_meth F.slot_str_startswith F.type_str_startswith fun A g s t vs G h1 E Q q => by
  obtain ⟨w, e, ⟨u, e2⟩⟩ := RL.one h1
  subst e e2
  refine SC.startswith ?_
  rw [startswith_eq]
  exact q _ _ _ (Step.refl G) rfl
theorem mat_at {C : Mod} {g : Frz} {s : Shared} {sp : List Int} {v : Value} (G : Good C g s) (h : R g (.mat x sp) v) : s.TypeIs v "re.Match" ∧ ∀ a, v = .ref a → ∃ ob, s.heap.get? a = some ob ∧ ob.dict = none :=
  h.elim fun _ h => h.elim fun _ h => h.elim fun _ h => h.elim fun _ h => h.elim fun _ h => h.elim fun _ h => h.elim fun _ h => h.elim fun _ h => h.elim fun _ h => by
    rw [h.1]; exact ⟨⟨_, G.stays _ _ h.2.1, rfl⟩, fun b q => by cases q; exact ⟨_, G.stays _ _ h.2.1, rfl⟩⟩
theorem mat_meth {name : Str} {id : String} {sp : List Int} {l : List D} {r : D} (slot : PySem.Slot "re.Match" name id) (ty : typeOf (.builtin id) = pure (.type "method_descriptor")) (h : ∀ A g s v vs, Good C g s → R g (.mat x sp) v → s.TypeIs v "re.Match" → RL g l vs → Gives C A g s (call (.builtin id) (v :: vs)) r) : MethG C k (.mat x sp) name l r :=
  fun A g s ov _ G hv => ⟨_, id, plainAttrs_mat, slot, ty, (mat_at G hv).1, (mat_at G hv).2, fun g' s' vs st hl => h A g' s' ov vs st.good (hv.mono st.grow) (mat_at st.good (hv.mono st.grow)).1 hl⟩
theorem m_span {a b : Int} {l : List Int} : MethG C k (.mat x (a :: b :: l)) "span" [.int 0] (.tuple [.int a, .int b]) := mat_meth slot_mat_span type_mat_span fun A g s v vs G hv hT h1 E Q q => by
  obtain ⟨w, e, ⟨u, e2⟩⟩ := RL.one h1
  subst e e2
  refine wpAny_call_entry slot_mat_span hT entry_mat_span ?_ (args_mat_span _ _)
  show wpAny _ _ (reOneGroup "Match.span" "span" ⟨[v, .int 0 u], []⟩ >>= _) _ _ s
  refine wpAny_bind ?_
  unfold reOneGroup
  refine wpAny_bind (wpAny_of_eq (a := (v, [.int 0 u])) rfl ?_)
  refine wpAny_bind (found_sound G hv fun t p pos lm li sa => ?_)
  refine wpAny_bind (wpAny_of_eq (groupNumber_int _ 0 u (by decide) (by rw [spans_size, List.length_cons, List.length_cons]; omega)) (wpAny_pure ?_))
  refine wpAny_bind (wpAny_mkInt (wpAny_bind (wpAny_mkInt (wpAny_bind (wpAny_newTuple ?_)))))
  rw [getD_raw, getD_raw]
  refine wpAny_pure ⟨_, rfl, q _ _ _ (Step.push G _ rfl _) ?_⟩
  exact ⟨_, _, 0, rfl, Frz.put_self .., RL.cons ⟨_, rfl⟩ (RL.cons ⟨_, rfl⟩ RL.nil)⟩
theorem m_group {a b : Int} {c d : Nat} {l : List Int} (h : x.length ≤ lim) : MethG C k (.mat x (a :: b :: (c : Int) :: (d : Int) :: l)) "group" [.int 1] (.str ((x.take d).drop c)) := mat_meth slot_mat_group type_mat_group fun A g s v vs G hv hT h1 E Q q => by
  obtain ⟨w, e, ⟨u, e2⟩⟩ := RL.one h1
  subst e e2
  refine wpAny_call_entry slot_mat_group hT entry_mat_group ?_ (args_mat_group _ _)
  show wpAny _ _ (reFound v >>= _) _ _ s
  refine wpAny_bind (found_sound G hv fun t p pos lm li sa => ?_)
  show wpAny _ _ (reGroupNumber _ (.int 1 u) >>= _) _ _ s
  refine wpAny_bind (wpAny_of_eq (groupNumber_int _ 1 u (by decide) (by rw [spans_size, List.length_cons, List.length_cons, List.length_cons, List.length_cons]; omega)) ?_)
  refine wpAny_bind ?_
  unfold reGroupText
  rw [getD_raw, getD_raw]
  show wpAny _ _ (if (decide ((c : Int) < 0) || decide ((d : Int) < 0)) = true then _ else _) _ _ s
  rw [if_neg (by rw [Bool.or_eq_true, decide_eq_true_eq, decide_eq_true_eq]; omega)]
  refine wpAny_bind (wpAny_of_eq (a := (x.toArray, 0)) rfl ?_)
  refine wpAny_mkStr (wpAny_pure ⟨_, rfl, q _ _ _ (Step.toks G _) ⟨s.toks, ?_⟩⟩) ?_
  · rw [List.extract_toArray, List.extract_eq_drop_take, ← List.drop_take]; rfl
  · rw [List.extract_toArray, strLen, List.extract_eq_drop_take]
    exact Nat.le_trans (List.length_take_le' ..) (Nat.le_trans (len_drop _ _) h)
end
end Mine
end
section
open PySem PySem.W PyProof.Rows
namespace Mine
theorem fmod_12 {x : Int} : x.fmod 12 = ((x.fmod 12).toNat : Nat) := by
  rw [Int.fmod_eq_emod_of_nonneg _ (by decide)]; omega
theorem mapM_cons_some {α β : Type} {f : α → Option β} {x : α} {l : List α} {r : List β} (h : (x :: l).mapM f = some r) : ∃ y ys, f x = some y ∧ l.mapM f = some ys ∧ r = y :: ys := by
  rw [List.mapM_cons] at h
  cases h1 : f x with
  | none => rw [h1] at h; cases h
  | some y =>
    cases h2 : l.mapM f with
    | none => rw [h1, h2] at h; cases h
    | some ys => rw [h1, h2] at h; cases h; exact ⟨y, ys, rfl, rfl, rfl⟩
theorem eqvAll_self {n : Nat} (ih : ∀ d p, D.toPy n d = some p → PyData.eqv p p = true) : ∀ (xs : List D) (ps : List PyData), xs.mapM (D.toPy n) = some ps → PyData.eqvAll ps ps = true
  | [], ps, h => by cases h; rfl
  | x :: xs, ps, h => by
    obtain ⟨y, ys, h1, h2, rfl⟩ := mapM_cons_some h
    rw [PyData.eqvAll, ih _ _ h1, eqvAll_self ih xs ys h2]; rfl
theorem toPy_self : ∀ (n : Nat) (d : D) (p : PyData), D.toPy n d = some p → PyData.eqv p p = true
  | 0, d, p, h => by cases h
  | n + 1, d, p, h => by
    cases d with
    | none => cases h; rfl
    | bool b => cases h; simp [PyData.eqv]
    | int i => cases h; simp [PyData.eqv]
    | str x =>
      unfold D.toPy at h
      simp only at h
      split at h
      · cases h; simp [PyData.eqv]
      · cases h
    | list xs =>
      unfold D.toPy at h
      simp only [Option.map_eq_some_iff] at h
      obtain ⟨ps, h, rfl⟩ := h
      rw [PyData.eqv]; exact eqvAll_self (toPy_self n) xs ps h
    | tuple xs =>
      unfold D.toPy at h
      simp only [Option.map_eq_some_iff] at h
      obtain ⟨ps, h, rfl⟩ := h
      rw [PyData.eqv]; exact eqvAll_self (toPy_self n) xs ps h
    | _ => cases h
theorem eqb_self {d : D} (h : (D.toPy 8 d).isSome = true) : D.eqb d d = some true := by
  obtain ⟨p, hp⟩ := Option.isSome_iff_exists.mp h
  unfold D.eqb
  rw [hp]
  show some (PyData.eqv p p) = _
  rw [toPy_self 8 d p hp]
theorem eq_int {a b : Int} : D.eqb (.int a) (.int b) = some (decide (a = b)) := by
  unfold D.eqb
  show some (PyData.eqv (.int a) (.int b)) = _
  rw [PyData.eqv, show (a == b) = decide (a = b) from rfl]
noncomputable def okT (x : List Nat) : Bool := x.all fun c => decide (c < 55296)
theorem toPy_str {n : Nat} {x : List Nat} (h : okT x = true) : D.toPy (n + 1) (.str x) = some (.str ⟨x.toArray⟩) := by
  unfold D.toPy; unfold okT at h; simp only [h, if_true]
theorem eq_str {x y : List Nat} (hx : okT x = true) (hy : okT y = true) : D.eqb (.str x) (.str y) = some (decide (x = y)) := by
  unfold D.eqb
  rw [toPy_str hx, toPy_str hy]
  show some (PyData.eqv (.str ⟨x.toArray⟩) (.str ⟨y.toArray⟩)) = _
  rw [PyData.eqv]
  congr 1
  rw [Bool.eq_iff_iff, beq_iff_eq, decide_eq_true_eq]
  constructor
  · intro h; have := congrArg (fun s : Str => s.cps.toList) h; simpa using this
  · intro h; rw [h]
theorem eq_nilr {xs : List D} (h : (D.toPy 8 (.list xs)).isSome = true) : D.eqb (.list xs) (.list []) = some xs.isEmpty := by
  obtain ⟨p, hp⟩ := Option.isSome_iff_exists.mp h
  have hp' := hp
  unfold D.toPy at hp'
  simp only [Option.map_eq_some_iff] at hp'
  obtain ⟨ps, h1, rfl⟩ := hp'
  unfold D.eqb
  rw [hp]
  show some (PyData.eqv (.list ps) (.list [])) = _
  rw [PyData.eqv]
  cases xs with
  | nil => cases h1; rfl
  | cons x xs =>
    obtain ⟨y, ys, _, _, rfl⟩ := mapM_cons_some h1
    rfl

/-! how data are laid -/
noncomputable abbrev Pair := List Nat × Option (List Nat)
noncomputable def dO : Option (List Nat) → D
  | none => .none
  | some v => .str v
noncomputable def dP (p : Pair) : D := .tuple [.str p.1, dO p.2]
noncomputable def dW (l : List Pair) : D := .list (l.map dP)
noncomputable def dL (ls : List (List Pair)) : D := .list (ls.map dW)
noncomputable def okP (p : Pair) : Bool := okT p.1 && (match p.2 with | none => true | some v => okT v)
theorem toPy_list {n : Nat} {xs : List D} (h : ∀ x ∈ xs, (D.toPy n x).isSome = true) : (D.toPy (n + 1) (.list xs)).isSome = true := by
  unfold D.toPy
  simp only [Option.isSome_map]
  induction xs with
  | nil => rfl
  | cons x xs ih =>
    obtain ⟨p, hp⟩ := Option.isSome_iff_exists.mp (h x (by simp))
    obtain ⟨q, hq⟩ := Option.isSome_iff_exists.mp (ih fun y hy => h y (by simp [hy]))
    rw [List.mapM_cons, hp, hq]; rfl
theorem toPy_tuple {n : Nat} {xs : List D} (h : ∀ x ∈ xs, (D.toPy n x).isSome = true) : (D.toPy (n + 1) (.tuple xs)).isSome = true := by
  unfold D.toPy
  simp only [Option.isSome_map]
  induction xs with
  | nil => rfl
  | cons x xs ih =>
    obtain ⟨p, hp⟩ := Option.isSome_iff_exists.mp (h x (by simp))
    obtain ⟨q, hq⟩ := Option.isSome_iff_exists.mp (ih fun y hy => h y (by simp [hy]))
    rw [List.mapM_cons, hp, hq]; rfl
theorem toPy_dP {n : Nat} {p : Pair} (h : okP p = true) : (D.toPy (n + 2) (dP p)).isSome = true := by
  unfold okP at h
  rw [Bool.and_eq_true] at h
  refine toPy_tuple fun x hx => ?_
  simp only [List.mem_cons, List.not_mem_nil, or_false] at hx
  rcases hx with rfl | rfl
  · rw [toPy_str h.1]; rfl
  · cases e : p.2 with
    | none => rfl
    | some v => rw [e] at h; show (D.toPy (n + 1) (.str v)).isSome = true; rw [toPy_str h.2]; rfl
theorem toPy_dW {n : Nat} {l : List Pair} (h : ∀ p ∈ l, okP p = true) : (D.toPy (n + 3) (dW l)).isSome = true := by
  refine toPy_list fun x hx => ?_
  rw [List.mem_map] at hx
  obtain ⟨p, hp, rfl⟩ := hx
  exact toPy_dP (h p hp)
theorem toPy_dL {n : Nat} {ls : List (List Pair)} (h : ∀ l ∈ ls, ∀ p ∈ l, okP p = true) : (D.toPy (n + 4) (dL ls)).isSome = true := by
  refine toPy_list fun x hx => ?_
  rw [List.mem_map] at hx
  obtain ⟨l, hl, rfl⟩ := hx
  exact toPy_dW (h l hl)

/-! names -/
section
variable {ρ : Ct} {σ : Store} {x y : Str} {d e : D}
theorem up_hd : ups ρ x d x = some d := if_pos rfl
theorem up_tl (h : (y == x) = false) (h2 : ρ y = some e) : ups ρ x d y = some e := (if_neg (fun q => by rw [q, beq_self_eq_true] at h; cases h)).trans h2
theorem in_of {inner : Names} (h : (inner.lookup y == some .free) = true) (h2 : ρ y = some e) : inn inner ρ y = some e := (if_pos (beq_iff_eq.mp h)).trans h2
theorem lk_hd {sl : Slot} : List.lookup x ((x, sl) :: σ) = some sl := by rw [List.lookup_cons, beq_self_eq_true]
theorem lk_tl {sl sl' : Slot} (h : (y == x) = false) (h2 : List.lookup y σ = some sl') : List.lookup y ((x, sl) :: σ) = some sl' := by rw [List.lookup_cons, h]; exact h2
theorem pt_hd {sl : Slot} : (put σ x sl).lookup x = some sl := by rw [lookup_put, if_pos rfl]
theorem pt_tl {sl sl' : Slot} (h : (y == x) = false) (h2 : List.lookup y σ = some sl') : (put σ x sl).lookup y = some sl' := by rw [lookup_put, if_neg (fun q => by rw [q, beq_self_eq_true] at h; cases h)]; exact h2
end
structure Bs (C : Mod) : Prop where
  clean : ∀ Γ, C.ok Γ → Clean Γ
  bltn : ∀ i (h : i < 10), C.mg (bPairs[i]'h).1 = none ∧ C.mb (bPairs[i]'h).1 = some (bPairs[i]'h).2
  ex : Extra C
section
variable {C : Mod} {k : Nat} {sc : Names} {ρ : Ct}
theorem e_var {x p d} (hx : ρ x = some d) (h : (isVar (sc.lookup x) && !(x == ("__debug__" : Str)) && !(x == ("__classdict__" : Str))) = true) : Ev C k sc ρ (.Name x p) d := by
  rw [Bool.and_eq_true, Bool.and_eq_true, Bool.not_eq_true', Bool.not_eq_true'] at h
  exact e_name hx h.1.1 h.1.2 h.2
noncomputable abbrev Bv (f : Str) (v : Value) : Prop := ∃ i, ∃ h : i < 10, f = (bPairs[i]'h).1 ∧ v = (bPairs[i]'h).2
theorem Bs.at (M : Bs C) {f v} (h : Bv f v) : C.mg f = none ∧ C.mb f = some v := let ⟨i, h, e, e2⟩ := h; e ▸ e2 ▸ M.bltn i h
theorem e_b (M : Bs C) {f : Str} {id : String} {args fp pos l r} (hv : Bv f (.builtin id)) (hr : EvR C k sc ρ args l) (e : CallG C k (.builtin id) l r) (h : (sc.lookup f == some .globalImplicit && !(f == ("__debug__" : Str))) = true) : Ev C k sc ρ (.Call (.Name f fp) args [] pos) r := by
  rw [Bool.and_eq_true, Bool.not_eq_true', beq_iff_eq] at h
  exact e_bltn hr e h.1 h.2 (M.at hv).1 (M.at hv).2
theorem e_t (M : Bs C) {f : Str} {id : String} {args fp pos l r} (hv : Bv f (.type id)) (hr : EvR C k sc ρ args l) (e : CallG C k (.type id) l r) (h : (sc.lookup f == some .globalImplicit && !(f == ("__debug__" : Str))) = true) : Ev C k sc ρ (.Call (.Name f fp) args [] pos) r := by
  rw [Bool.and_eq_true, Bool.not_eq_true', beq_iff_eq] at h
  exact e_type hr e h.1 h.2 (M.at hv).1 (M.at hv).2
theorem e_f {f : Str} {args fp pos l r} (hr : EvR C k sc ρ args l) (hg : FnG C k f l r) (h : (sc.lookup f == some .globalImplicit && !(f == ("__debug__" : Str))) = true) : Ev C k sc ρ (.Call (.Name f fp) args [] pos) r := by
  rw [Bool.and_eq_true, Bool.not_eq_true', beq_iff_eq] at h
  exact e_fn hr hg h.1 h.2
theorem bv_len : Bv "len" (.builtin "len") := ⟨0, by decide, rfl, rfl⟩
theorem bv_ord : Bv "ord" (.builtin "ord") := ⟨1, by decide, rfl, rfl⟩
theorem bv_chr : Bv "chr" (.builtin "chr") := ⟨2, by decide, rfl, rfl⟩
theorem bv_range : Bv "range" (.type "range") := ⟨3, by decide, rfl, rfl⟩
theorem bv_bytes : Bv "bytes" (.type "bytes") := ⟨4, by decide, rfl, rfl⟩
theorem bv_VE : Bv "ValueError" (.type "ValueError") := ⟨5, by decide, rfl, rfl⟩
theorem bv_IE : Bv "IndexError" (.type "IndexError") := ⟨6, by decide, rfl, rfl⟩
theorem bv_isi : Bv "isinstance" (.builtin "isinstance") := ⟨7, by decide, rfl, rfl⟩
theorem bv_strT : Bv "str" (.type "str") := ⟨8, by decide, rfl, rfl⟩
theorem bv_ba : Bv "bytearray" (.type "bytearray") := ⟨9, by decide, rfl, rfl⟩
theorem e_b_len (M : Bs C) {args fp pos l r} (hr : EvR C k sc ρ args l) (e : CallG C k (.builtin "len") l r) (h : (sc.lookup ("len" : Str) == some .globalImplicit && !(("len" : Str) == ("__debug__" : Str))) = true) : Ev C k sc ρ (.Call (.Name "len" fp) args [] pos) r := e_b M bv_len hr e h
theorem e_b_ord (M : Bs C) {args fp pos l r} (hr : EvR C k sc ρ args l) (e : CallG C k (.builtin "ord") l r) (h : (sc.lookup ("ord" : Str) == some .globalImplicit && !(("ord" : Str) == ("__debug__" : Str))) = true) : Ev C k sc ρ (.Call (.Name "ord" fp) args [] pos) r := e_b M bv_ord hr e h
theorem e_b_chr (M : Bs C) {args fp pos l r} (hr : EvR C k sc ρ args l) (e : CallG C k (.builtin "chr") l r) (h : (sc.lookup ("chr" : Str) == some .globalImplicit && !(("chr" : Str) == ("__debug__" : Str))) = true) : Ev C k sc ρ (.Call (.Name "chr" fp) args [] pos) r := e_b M bv_chr hr e h
theorem e_t_bytes (M : Bs C) {args fp pos l r} (hr : EvR C k sc ρ args l) (e : CallG C k (.type "bytes") l r) (h : (sc.lookup ("bytes" : Str) == some .globalImplicit && !(("bytes" : Str) == ("__debug__" : Str))) = true) : Ev C k sc ρ (.Call (.Name "bytes" fp) args [] pos) r := e_t M bv_bytes hr e h
theorem e_t_range (M : Bs C) {args fp pos l r} (hr : EvR C k sc ρ args l) (e : CallG C k (.type "range") l r) (h : (sc.lookup ("range" : Str) == some .globalImplicit && !(("range" : Str) == ("__debug__" : Str))) = true) : Ev C k sc ρ (.Call (.Name "range" fp) args [] pos) r := e_t M bv_range hr e h
end
end Mine
end
section
open PySem PySem.W PyProof.Rows
set_option maxRecDepth 100000
namespace Mine
theorem slot_md_get : PySem.Slot "member_descriptor" "__get__" "member_descriptor.__get__" :=
  .of (owner := "member_descriptor") (n := "__get__") (by rw [typeLookup_type, builtinLookup_eq_fast]; kernel_rfl) (by decide +kernel) (by decide +kernel) (by decide +kernel)
    (by first | exact .inl (by decide +kernel) | exact .inr (by decide +kernel)) (by rw [isSubtype_type]; kernel_rfl)
theorem entry_md_get : entryFor table "member_descriptor.__get__" = some Builtin.«member_descriptor.__get__» := entryFor_of_tree (by kernel_rfl)
theorem args_md_get (a b c : Value) : argsOk "member_descriptor.__get__" ⟨[a, b, c], []⟩ := by unfold argsOk; kernel_rfl
theorem typeOf_mat_string : typeOf (.builtin "re.Match.string") = pure (.type "member_descriptor") := by show builtinType _ = _; rw [builtinType_eq_fast]; kernel_rfl
theorem entry_mat_string : entryFor table "re.Match.string" = some Builtin.«re.Match.string» := entryFor_of_tree (by kernel_rfl)
theorem slot_mat_string : typeLookup (.type "re.Match") "string" = pure (some (.builtin "re.Match.string")) := by rw [typeLookup_type, builtinLookup_eq_fast]; kernel_rfl
theorem md_set : typeLookup (.type "member_descriptor") "__set__" = pure (some (.builtin "member_descriptor.__set__")) := by rw [typeLookup_type, builtinLookup_eq_fast]; kernel_rfl
theorem slot_mat_ga : typeLookup (.type "re.Match") "__getattribute__" = pure (some (.builtin "object.__getattribute__")) := by rw [typeLookup_type, builtinLookup_eq_fast]; kernel_rfl
theorem owner_mat_string : (".".intercalate ("re.Match.string".cutAt '.').dropLast) = "re.Match" := by
  have e0 : "re.Match.string".cutAt '.' = ["re", "Match", "string"] := by first | rfl | decide +kernel
  rw [e0]; decide +kernel
theorem sub_mat : isSubtype (.type "re.Match") (.type "re.Match") = pure true := by rw [isSubtype_type]; kernel_rfl
theorem slotGa : PySem.Slot "re.Match" "__getattribute__" "object.__getattribute__" :=
  .of (owner := "object") (n := "__getattribute__") slot_mat_ga (by decide +kernel) (by decide +kernel) (by decide +kernel)
    (by first | exact .inl (by decide +kernel) | exact .inr (by decide +kernel)) (by rw [isSubtype_type]; kernel_rfl)
theorem entry_oga : entryFor table "object.__getattribute__" = some Builtin.«object.__getattribute__» := entryFor_of_tree (by kernel_rfl)
theorem args_oga (a b : Value) : argsOk "object.__getattribute__" ⟨[a, b], []⟩ := by unfold argsOk; kernel_rfl

section
variable {prog : Program} {w : World} {A : Around} {E : Value → Shared → Prop} {h : Heap} {g : Array GenState} {d : Drawn} {t : Nat} {os : OsState} {a : Addr} {o : Obj} {vs : Array Value} {a0 : Value}

theorem string_get {R : Result → Shared → Prop} (hx : h.get? a = some o) (hc : o.cls = .type "re.Match") (hd : o.data = .fields vs) (h0 : vs[0]? = some a0) (hnd : (a0 == doubtfulMember) = false) (hq : R (.ok (.ret a0)) ⟨h, g, d, t, os⟩) :
    codeAny (model prog w) A (.call (.builtin "member_descriptor.__get__") ⟨[.builtin "re.Match.string", .ref a, .type "re.Match"], []⟩) R ⟨h, g, d, t, os⟩ := by
  have hT : (⟨h, g, d, t, os⟩ : Shared).TypeIs (.ref a) "re.Match" := ⟨_, hx, hc⟩
  have hT5 : (⟨h, g, d, t, os⟩ : Shared).TypeIs (.builtin "re.Match.string") "member_descriptor" := typeOf_mat_string
  have f8 : isSubtype (.type "re.Match") (.type (".".intercalate ("re.Match.string".cutAt '.').dropLast)) = pure true := by rw [owner_mat_string]; exact sub_mat
  refine codeAny_call_builtin slot_md_get.plain entry_md_get (slot_md_get.check _ _ _ _ _ _ _ _ hT5 (args_md_get _ _ _) ?_)
  repeat (any_goals (first | assumption | wp_step))
  refine ⟨Code.quiet_builtin _ (by decide +kernel), codeAny_builtin entry_mat_string ?_⟩
  unfold Builtin.«re.Match.string»
  exact wpAny_bind (wpAny_field hx hd h0 (wpAny_pure hq))

theorem string_entry {tk : Tok} {Q : Fin → Shared → Prop} (hx : h.get? a = some o) (hc : o.cls = .type "re.Match") (hd : o.data = .fields vs) (h0 : vs[0]? = some a0) (hnd : (a0 == doubtfulMember) = false) (hq : Q (.done (.ret a0)) ⟨h, g, d, t, os⟩) :
    wpAny (model prog w) A (Builtin.«object.__getattribute__» ⟨[.ref a, .str "string" tk], []⟩) Q E ⟨h, g, d, t, os⟩ := by
  have hT : (⟨h, g, d, t, os⟩ : Shared).TypeIs (.ref a) "re.Match" := ⟨_, hx, hc⟩
  have hT5 : (⟨h, g, d, t, os⟩ : Shared).TypeIs (.builtin "re.Match.string") "member_descriptor" := typeOf_mat_string
  have f4 := slot_mat_string
  have f5 := typeOf_mat_string
  have f6 := slot_md_get.lookup
  have f7 := md_set
  repeat (any_goals (first | assumption | wp_step))
  refine string_get hx hc hd h0 hnd ?_
  repeat (any_goals (first | assumption | wp_step))

theorem string_by {tk : Tok} {expr : Bool} {x : Str} {tx : Tok} {Q : Value → Shared → Prop} (hx : h.get? a = some o) (hc : o.cls = .type "re.Match") (hd : o.data = .fields vs) (h0 : vs[0]? = some (.str x tx))
    (hq : Q (.str x tx) ⟨h, g, d, t, os⟩) : wpAny (model prog w) A (getAttrBy (.ref a) (.str "string" tk) true expr) Q E ⟨h, g, d, t, os⟩ := by
  have hT : (⟨h, g, d, t, os⟩ : Shared).TypeIs (.ref a) "re.Match" := ⟨_, hx, hc⟩
  have f2 := slotGa.lookup
  have f3 := slotGa.bind (.ref a)
  have hx0 : (expr && onTheHeap (Value.builtin "object.__getattribute__")) = false := by cases expr <;> rfl
  have hcall : ∀ R : Result → Shared → Prop, R (.ok (.ret (.str x tx))) ⟨h, g, d, t, os⟩ → codeAny (model prog w) A (.call (.builtin "object.__getattribute__") ⟨[.ref a, .str "string" tk], []⟩) R ⟨h, g, d, t, os⟩ := fun R hR =>
    codeAny_call_builtin slotGa.plain entry_oga (slotGa.check _ _ _ _ _ _ _ _ hT (args_oga _ _) (string_entry hx hc hd h0 rfl hR))
  repeat (any_goals (first | assumption | wp_step))
  refine hcall _ ?_
  repeat (any_goals (first | assumption | wp_step))

theorem string_attr {expr : Bool} {x : Str} {tx : Tok} {Q : Value → Shared → Prop} (hx : h.get? a = some o) (hc : o.cls = .type "re.Match") (hd : o.data = .fields vs) (h0 : vs[0]? = some (.str x tx))
    (hq : Q (.str x tx) ⟨h, g, d, t + 1, os⟩) : wpAny (model prog w) A (getAttr (.ref a) "string" expr) Q E ⟨h, g, d, t, os⟩ := by
  unfold getAttr
  refine wpAny_bind (wpAny_mkText ?_)
  exact string_by hx hc hd h0 hq
end

theorem string_gives {C : Mod} {A : Around} {g : Frz} {s : Shared} {x : List Nat} {sp : List Int} {v : Value} (G : Good C g s) (hv : R g (.mat x sp) v) : Gives C A g s (getAttr v "string" true) (.str x) := fun E Q q => by
  unfold R at hv; obtain ⟨a, t, p, pos, lm, li, sa, sn, svs, rfl, hg, hs, hr⟩ := hv
  exact string_attr (G.stays _ _ hg) rfl rfl rfl (q _ _ _ (Step.toks G _) ⟨t, rfl⟩)
end Mine
end
section
open PySem PySem.W PyProof.Rows
namespace Mine
variable {C : Mod} {k : Nat} {sc : Names} {ρ : Ct}
section
variable {x : T} {xs : List D} {b : List UInt8} {n m : Nat}
theorem it_list (h : xs.length ≤ lim) : Itb (.list xs) xs := itb_list
theorem it_str (h : x.length ≤ lim) : Itb (.str x) (x.map fun c => .str [c]) := itb_str
theorem it_bytes (h : b.length ≤ lim) : Itb (.bytes b) (b.map fun c => .int c.toNat) := itb_bytes
theorem joined_nul : ∀ {l : List T}, joined [] l = l.flatten
  | [] => rfl
  | [x] => (List.append_nil x).symm
  | x :: y :: r => by show x ++ [] ++ joined [] (y :: r) = _; rw [joined_nul, List.append_nil]; rfl
theorem sum_len : ∀ l : List T, (l.map (·.length)).sum = l.flatten.length
  | [] => rfl
  | x :: l => by rw [List.map_cons, List.sum_cons, sum_len l, List.flatten_cons, List.length_append]
theorem m_join {α : Type} {f : α → T} {l : List α} (h : (l.map f).flatten.length + l.length * x.length ≤ lim) : MethG C k (.str x) "join" [.list (l.map fun a => .str (f a))] (.str (joined x (l.map f))) :=
  by
  have := m_joinS (C := C) (k := k) (x := x) (l := l.map f) (by rw [sum_len, List.length_map]; exact h)
  rw [List.map_map] at this; exact this
theorem m_join0 {α : Type} {f : α → T} {l : List α} (h : (l.map f).flatten.length ≤ lim) : MethG C k (.str []) "join" [.list (l.map fun a => .str (f a))] (.str (l.map f).flatten) := by
  have := m_join (C := C) (k := k) (x := []) (f := f) (l := l) (Nat.le_trans (Nat.le_of_eq (by rw [List.length_nil, Nat.mul_zero, Nat.add_zero])) h)
  rw [joined_nul] at this; exact this
end
theorem at_string {x : T} {sp : List Int} : AttG C k (.mat x sp) "string" (.str x) := fun A g s v rm G hv => string_gives G hv
theorem c_eqi {a b : Int} : Cmp C k .Eq (.int a) (.int b) (decide (a = b)) := c_eq eq_int
theorem e_lit {s : Str} {l : T} {a p} (h : s.cps.toList = l) : Ev C k sc ρ (.Constant (.str s) a p) (.str l) := h ▸ e_str
theorem lt0 : (Str.ofString "").cps.toList = [] := by decide +kernel
theorem lt1 : (Str.ofString "\"").cps.toList = [34] := by decide +kernel
theorem lt2 : (Str.ofString "\"%s\"").cps.toList = [34, 37, 115, 34] := by decide +kernel
theorem lt3 : (Str.ofString "\"\\").cps.toList = [34, 92] := by decide +kernel
theorem lt4 : (Str.ofString ",").cps.toList = [44] := by decide +kernel
theorem lt5 : (Str.ofString ", ").cps.toList = [44, 32] := by decide +kernel
theorem lt6 : (Str.ofString "; ").cps.toList = [59, 32] := by decide +kernel
theorem lt7 : (Str.ofString "=").cps.toList = [61] := by decide +kernel
theorem lt8 : (Str.ofString "\\").cps.toList = [92] := by decide +kernel
theorem lt9 : (Str.ofString "\n").cps.toList = [10] := by decide +kernel
theorem lt10 : (Str.ofString " \t\x0d\n").cps.toList = [32, 9, 13, 10] := by decide +kernel
theorem lt11 : (Str.ofString ";,").cps.toList = [59, 44] := by decide +kernel
theorem lt12 : (Str.ofString "=;,").cps.toList = [61, 59, 44] := by decide +kernel
theorem lt13 : (Str.ofString "=;").cps.toList = [61, 59] := by decide +kernel
theorem lt14 : (Str.ofString "aB").cps.toList = [97, 66] := by decide +kernel
theorem lt15 : (Str.ofString "=\"").cps.toList = [61, 34] := by decide +kernel
theorem lt16 : (Str.ofString "a\t/=\"\\;, \n\x0d\"").cps.toList = [97, 9, 47, 61, 34, 92, 59, 44, 32, 10, 13, 34] := by decide +kernel
theorem lt17 : (Str.ofString "/=\"\\\";\",B=\"a").cps.toList = [47, 61, 34, 92, 34, 59, 34, 44, 66, 61, 34, 97] := by decide +kernel
theorem lt18 : (Str.ofString "turned").cps.toList = [116, 117, 114, 110, 101, 100] := by decide +kernel
theorem lt19 : (Str.ofString "nought").cps.toList = [110, 111, 117, 103, 104, 116] := by decide +kernel
theorem lt20 : (Str.ofString "torn").cps.toList = [116, 111, 114, 110] := by decide +kernel
theorem e_ifS {t b o p c x y} (ht : EvT C k sc ρ t c) (hb : Ev C k sc ρ b (.str x)) (ho : Ev C k sc ρ o (.str y)) : Ev C k sc ρ (.IfExp t b o p) (.str (if c = true then x else y)) := by
  cases c with
  | true => exact e_ifT ht hb
  | false => exact e_ifF ht ho
theorem len_map {α β : Type} {f : α → β} {l : List α} {n : Nat} (h : l.length ≤ n) : (l.map f).length ≤ n := Nat.le_trans (Nat.le_of_eq (List.length_map _)) h
theorem no_of {o : Option D} (h : o.isNone = true) : o = none := Option.isNone_iff_eq_none.mp h
theorem bnd1 {x p d} (hx : (sc.lookup x == some .local) = true) (hn : (ρ x).isNone = true) : Bnd C k sc (.Name x p) d ρ (ups ρ x d) := b_name (beq_iff_eq.mp hx) (no_of hn)
theorem bnd2 {x y p p' kk q a b} (hx : (sc.lookup x == some .local) = true) (hn : (ρ x).isNone = true) (hy : (sc.lookup y == some .local) = true) (hny : (ρ y).isNone = true) (hxy : (y == x) = false) :
    Bnd C k sc (.Tuple [.Name x p, .Name y p'] kk q) (.tuple [a, b]) ρ (ups (ups ρ x a) y b) := b_pair (beq_iff_eq.mp hx) (no_of hn) (beq_iff_eq.mp hy) (no_of hny) hxy
theorem comp1 {elt t it : Expr} {ifs : List Expr} {scope : Scope} {pos : Pos} {d1 : D} {α : Type} {gi G : α → D} {l : List α} {ρ' : α → Ct} (hit : Ev C k sc ρ it d1) (hi : Itb d1 (l.map gi)) (hb : ∀ a ∈ l, Bnd C k (compNames sc scope.names) t (gi a) (inn scope.names ρ) (ρ' a))
    (ht : ∀ a ∈ l, Tst C k (compNames sc scope.names) (ρ' a) ifs true) (he : ∀ a ∈ l, Ev C k (compNames sc scope.names) (ρ' a) elt (G a)) (hz : l.length ≤ lim) (hok : compOk sc scope = true) (hset : isSet it = false) (h00 : (scope.names.lookup (".0" : Str)).isSome = true) :
    Ev C k sc ρ (.ListComp elt [⟨t, it, ifs, 0⟩] scope pos) (.list (l.map G)) :=
  e_comp hit hi (lp_map rfl fun a ha => one_elt (hb a ha) (ht a ha) (he a ha) rfl) (len_map hz) hok hset h00
theorem bi_sn {a b r : Nat} (e : r = a - b) (h : b ≤ a) : Bin C k .Sub (.int (a : Nat)) (.int (b : Nat)) (.int (r : Nat)) := by
  have := bi_sub (C := C) (k := k) (a := (a : Int)) (b := (b : Int))
  rw [e, Int.ofNat_sub h]; exact this
theorem m_joinE {α : Type} {f : α → T} {l : List α} {r : T} (e : (l.map f).flatten = r) (h : r.length ≤ lim) : MethG C k (.str []) "join" [.list (l.map fun a => .str (f a))] (.str r) := e ▸ m_join0 (e ▸ h)
theorem b_bytesb (M : Bs C) {b : List UInt8} (h : b.length ≤ lim) : CallG C k (.type "bytes") [.buf b] (.bytes b) := fun A g s vs rm G h1 E Q q => by
  obtain ⟨v, e, hv⟩ := RL.one h1
  subst e
  exact wpC_of (M.ex.bytesBuf h rm.handled G hv E Q q)
theorem zlt {a : Nat} (h : a ≤ 1000000) : a ≤ lim := Nat.le_trans h (by decide)
theorem Sw.none {tg : List (Str × Pos)} {kk : Nat} {pp : Pos} {e : Expr} (h : ∀ es k' p', e ≠ .Tuple es k' p') : Sw sc tg kk pp e := fun env _ _ => .inl (by
  unfold swappedStores
  cases e <;> first | rfl | exact absurd rfl (h _ _ _))
theorem nod2 {x y : Str} (h : (y == x) = false) : [x, y].Nodup := List.nodup_cons.mpr ⟨fun q => by (rw [List.mem_singleton.mp q, beq_self_eq_true] at h; cases h), List.nodup_cons.mpr ⟨List.not_mem_nil, List.Pairwise.nil⟩⟩
theorem sto2 {x y : Str} {p q : Pos} (hx : storable sc x = true) (hy : storable sc y = true) : ∀ t ∈ [(x, p), (y, q)], storable sc t.1 = true := fun t ht => by
  rcases List.mem_cons.mp ht with rfl | ht
  · exact hx
  · rw [List.mem_singleton.mp ht]; exact hy
theorem s_two {σ : Store} {x y : Str} {p1 p2 e a b kk p3 p4} (h : Ev C k sc (fz σ) e (.tuple [a, b])) (hxy : (y == x) = false) (hx : storable sc x = true) (hy : storable sc y = true) (hc : isCompE e = false) (hsw : ∀ es k' p', e ≠ .Tuple es k' p') :
    S1 C k sc σ (.Assign [.Tuple [.Name x p1, .Name y p2] kk p3] e p4) (put (put σ x (.frz a)) y (.frz b)) := s_unp (tg := [(x, p1), (y, p2)]) h rfl (nod2 hxy) (sto2 hx hy) hc (Sw.none hsw) rfl
theorem es_bm (M : Bs C) {fp a cp} {n : Nat} (h : Ev C k sc ρ a (.int (n : Nat))) (hs : isStar a = false) (hf : (sc.lookup ("bytearray" : Str) == some .globalImplicit) = true) (hn : n ≤ lim) : EvS C k sc ρ (.Call (.Name "bytearray" fp) [a] [] cp) (.buf (List.replicate n 0)) :=
  es_ba h hs (beq_iff_eq.mp hf) (Int.natCast_nonneg n) hn M.clean (M.at bv_ba).1 (M.at bv_ba).2
theorem s_forM {σ : Store} {t it : Expr} {b : List Stmt} {pos : Pos} {d : D} {α : Type} {gi : α → D} {l : List α} {W : Nat → Store → Prop} (hit : Ev C k sc (fz σ) it d) (hi : Itb d (l.map gi)) (hset : isSet it = false) (h0 : W 0 σ)
    (step : ∀ i a, l[i]? = some a → ∀ σ, W i σ → ∃ σ1, BF C k sc t (gi a) σ σ1 ∧ Ex C k sc σ1 b fun σ' fl => fl = .nxt ∧ W (i + 1) σ') : Es C k sc σ (.For t it b [] pos) fun σ' fl => fl = .nxt ∧ W l.length σ' := by
  have := s_for (b := b) (pos := pos) hit hi hset h0 fun i d hd σ hW => by
    rw [List.getElem?_map] at hd
    obtain ⟨a, ha, rfl⟩ := Option.map_eq_some_iff.mp hd
    exact step i a ha σ hW
  rw [List.length_map] at this; exact this
theorem s_rng {σ : Store} {t it : Expr} {b : List Stmt} {pos : Pos} {d : D} {gi : Nat → D} {n : Nat} {W : Nat → Store → Prop} (hit : Ev C k sc (fz σ) it d) (hi : Itb d ((List.range n).map gi)) (hset : isSet it = false) (h0 : W 0 σ)
    (step : ∀ i, i < n → ∀ σ, W i σ → ∃ σ1, BF C k sc t (gi i) σ σ1 ∧ Ex C k sc σ1 b fun σ' fl => fl = .nxt ∧ W (i + 1) σ') : Es C k sc σ (.For t it b [] pos) fun σ' fl => fl = .nxt ∧ W n σ' := by
  have := s_forM (b := b) (pos := pos) hit hi hset h0 fun i a ha σ hW => by
    obtain ⟨h1, h2⟩ := List.getElem?_eq_some_iff.mp ha
    rw [List.length_range] at h1
    rw [List.getElem_range] at h2
    subst h2
    exact step i h1 σ hW
  rw [List.length_range] at this; exact this
noncomputable abbrev At (σ : Store) (x : Str) (sl : Slot) : Prop := σ.lookup x = some sl
theorem x_frzb {σ : Store} {x : Str} {l b K} (hx : At σ x (.buf l)) (h : Ex C k sc (put σ x (.frz (.buf l))) b K) : Ex C k sc σ b K := x_frz hx h
theorem x_frzo {σ : Store} {x : Str} {l b K} (hx : At σ x (.own l)) (h : Ex C k sc (put σ x (.frz (.list l))) b K) : Ex C k sc σ b K := x_frz hx h
end Mine
end
section
open PySem PySem.W PyProof.Rows
namespace Mine
variable {C : Mod} {k : Nat} {sc : Names} {ρ : Ct}
theorem nod3 {x y z : Str} (h : (y == x) = false) (h1 : (z == x) = false) (h2 : (z == y) = false) : [x, y, z].Nodup := List.nodup_cons.mpr ⟨fun q => (List.mem_cons.mp q).elim (fun q => by rw [q, beq_self_eq_true] at h; cases h) (fun q => by (rw [List.mem_singleton.mp q, beq_self_eq_true] at h1; cases h1)), nod2 h2⟩
theorem s_tup2 {σ : Store} {x y : Str} {p1 p2 e f a b kk kk' p3 p4 p5} (he : EvS C k sc (fz σ) e a) (hf : EvS C k sc (fz σ) f b) (se : isStar e = false) (sf : isStar f = false) (hxy : (y == x) = false) (hx : storable sc x = true) (hy : storable sc y = true) (hsw : Sw sc [(x, p1), (y, p2)] kk p3 (.Tuple [e, f] kk' p4)) :
    S1 C k sc σ (.Assign [.Tuple [.Name x p1, .Name y p2] kk p3] (.Tuple [e, f] kk' p4) p5) (put (put σ x a) y b) := s_tup (tg := [(x, p1), (y, p2)]) (sls := [a, b]) (ss_cons he (ss_cons hf ss_nil sf) se) rfl (nod2 hxy) (sto2 hx hy) (Nat.le_of_ble_eq_true rfl) hsw rfl
theorem s_tup3 {σ : Store} {x y z : Str} {p1 p2 p2' e f g a b c kk kk' p3 p4 p5} (he : EvS C k sc (fz σ) e a) (hf : EvS C k sc (fz σ) f b) (hg : EvS C k sc (fz σ) g c) (se : isStar e = false) (sf : isStar f = false) (sg : isStar g = false) (hxy : (y == x) = false) (hxz : (z == x) = false) (hyz : (z == y) = false)
    (hx : storable sc x = true) (hy : storable sc y = true) (hz : storable sc z = true) (hsw : Sw sc [(x, p1), (y, p2), (z, p2')] kk p3 (.Tuple [e, f, g] kk' p4)) :
    S1 C k sc σ (.Assign [.Tuple [.Name x p1, .Name y p2, .Name z p2'] kk p3] (.Tuple [e, f, g] kk' p4) p5) (put (put (put σ x a) y b) z c) := s_tup (tg := [(x, p1), (y, p2), (z, p2')]) (sls := [a, b, c]) (ss_cons he (ss_cons hf (ss_cons hg ss_nil sg) sf) se) rfl (nod3 hxy hxz hyz) (fun t ht => by
      rcases List.mem_cons.mp ht with rfl | ht
      · exact hx
      · exact sto2 hy hz t ht) (Nat.le_of_ble_eq_true rfl) hsw rfl
theorem ev_eq {e d d'} (h : Ev C k sc ρ e d) (q : d = d') : Ev C k sc ρ e d' := q ▸ h
theorem x_ifR {σ : Store} {t b o pos r c} {K : Store → Fl → Prop} (ht : EvT C k sc (fz σ) t c) (hc : c = true) {d : D} (hb : Ex C k sc σ b fun σ' fl => fl = .ret d ∧ K σ' fl) : Ex C k sc σ (.If t b o pos :: r) K :=
  x_cons (K' := fun σ' fl => fl = .ret d ∧ K σ' fl) (s_ifT (hc ▸ ht) hb) (fun _ h => by cases h.1) fun _ _ h => h.2
theorem x_ifN {σ : Store} {t b pos r c} {K : Store → Fl → Prop} (ht : EvT C k sc (fz σ) t c) (hc : c = false) (hr : Ex C k sc σ r K) : Ex C k sc σ (.If t b [] pos :: r) K := by
  subst hc
  refine x_cons (K' := fun σ' fl => fl = .nxt ∧ σ' = σ) (s_ifF ht (x_nil ⟨rfl, rfl⟩)) (fun σ' h => ?_) fun _ _ h => by cases h.1
  rw [h.2]; exact hr
end Mine
end
section
open PySem PySem.W PyProof.Rows
namespace Mine
variable {C : Mod} {k : Nat} {sc : Names} {ρ : Ct}
theorem sto3 {x y z : Str} {p q r : Pos} (hx : storable sc x = true) (hy : storable sc y = true) (hz : storable sc z = true) : ∀ t ∈ [(x, p), (y, q), (z, r)], storable sc t.1 = true := fun t ht => by
  rcases List.mem_cons.mp ht with rfl | ht
  · exact hx
  · exact sto2 hy hz t ht
theorem s_thr {σ : Store} {x y z : Str} {p1 p2 p2' e a b c kk p3 p4} (h : Ev C k sc (fz σ) e (.tuple [a, b, c])) (hxy : (y == x) = false) (hxz : (z == x) = false) (hyz : (z == y) = false) (hx : storable sc x = true) (hy : storable sc y = true) (hz : storable sc z = true) (hc : isCompE e = false) (hsw : ∀ es k' p', e ≠ .Tuple es k' p') :
    S1 C k sc σ (.Assign [.Tuple [.Name x p1, .Name y p2, .Name z p2'] kk p3] e p4) (put (put (put σ x (.frz a)) y (.frz b)) z (.frz c)) := s_unp (tg := [(x, p1), (y, p2), (z, p2')]) h rfl (nod3 hxy hxz hyz) (sto3 hx hy hz) hc (Sw.none hsw) rfl
theorem x_last {σ : Store} {st} {K : Store → Fl → Prop} (h : Es C k sc σ st K) : Ex C k sc σ [st] K := fun X p E Q I q q' => wpC_execs_cons (h X p E _ I (fun σ' p' I' hk => wpC_execs_nil (q σ' p' I' hk)) q')
theorem x_ifL {σ : Store} {t b o pos c} {K : Store → Fl → Prop} (ht : EvT C k sc (fz σ) t c) (hT : c = true → Ex C k sc σ b K) (hF : c = false → Ex C k sc σ o K) : Ex C k sc σ [.If t b o pos] K := x_last (by
  cases c with
  | true => exact s_ifT ht (hT rfl)
  | false => exact s_ifF ht (hF rfl))
theorem len_nil {α : Type} {n : Nat} : ([] : List α).length ≤ n := Nat.zero_le _
theorem bi_s1 {a r : Nat} (e : r = a + 1) : Bin C k .Add (.int (a : Nat)) (.int 1) (.int (r : Nat)) := by rw [e]; exact bi_int
theorem At.eq {σ : Store} {x : Str} {a b : Slot} (h : At σ x a) (e : a = b) : At σ x b := e ▸ h
theorem flat_ff {α : Type} {b : α → Bool} {G : α → D} : ∀ l : List α, (l.map fun a => if b a = true then [G a] else []).flatten = (l.filter b).map G
  | [] => rfl
  | a :: l => by
    rw [List.map_cons, List.flatten_cons, flat_ff l, List.filter_cons]
    cases b a <;> rfl
theorem compF {elt t it : Expr} {ifs : List Expr} {scope : Scope} {pos : Pos} {d1 : D} {α : Type} {gi G : α → D} {b : α → Bool} {l : List α} {ρ' : α → Ct} (hit : Ev C k sc ρ it d1) (hi : Itb d1 (l.map gi)) (hb : ∀ a ∈ l, Bnd C k (compNames sc scope.names) t (gi a) (inn scope.names ρ) (ρ' a))
    (ht : ∀ a ∈ l, Tst C k (compNames sc scope.names) (ρ' a) ifs (b a)) (he : ∀ a ∈ l, b a = true → Ev C k (compNames sc scope.names) (ρ' a) elt (G a)) (hz : l.length ≤ lim) (hok : compOk sc scope = true) (hset : isSet it = false) (h00 : (scope.names.lookup (".0" : Str)).isSome = true) :
    Ev C k sc ρ (.ListComp elt [⟨t, it, ifs, 0⟩] scope pos) (.list ((l.filter b).map G)) := by
  rw [← flat_ff]
  refine e_comp hit hi (lp_ix rfl fun a ha => ?_) ?_ hok hset h00
  · have hbb := ht a ha
    have hee := he a ha
    cases hq : b a with
    | true =>
      rw [hq] at hbb
      exact one_elt (hb a ha) hbb (hee hq) rfl
    | false =>
      rw [hq] at hbb
      exact one_skip (hb a ha) hbb
  · rw [flat_ff, List.length_map]
    exact Nat.le_trans (List.length_filter_le _ _) hz
theorem x_frzn {σ : Store} {x : Str} {pre post cur L b K} (hx : At σ x (.nest pre cur post)) (e : (pre ++ [cur] ++ post).map .list = L) (h : Ex C k sc (put σ x (.frz (.list L))) b K) : Ex C k sc σ b K := x_frz hx (by subst e; exact h)
end Mine
end
section
open PySem PySem.W PyProof.Rows
namespace Mine
variable {C : Mod} {k : Nat} {sc : Names} {ρ : Ct}
theorem itm_str {x : T} {i c : Nat} (h : x[i]? = some c) (hl : x.length ≤ lim) : Itm (.str x) (.int (i : Nat)) (.str [c]) := fun C A g s u v value slice G ⟨_, hu⟩ ⟨_, hv⟩ E Q q => by
  subst hu hv
  have hi := (List.getElem?_eq_some_iff.mp h).1
  refine tail_sound (typeIs_str _ _ _) F.slot_str_getitem.lookup (PyProof.Rows.getItem_str (c := c) (by rw [Bool.or_eq_false_iff, decide_eq_false_iff_not, decide_eq_false_iff_not]; simp only [lim] at hl; omega) ?_ (q _ _ _ (Step.toks G _) ⟨_, rfl⟩))
  rw [strLen, seq_nat hi]
  exact (List.getElem?_toArray ..).trans h
theorem c_ni {c : Nat} {y : T} : Cmp C k .NotIn (.str [c]) (.str y) (!y.contains c) := fun A g s u v E Q _ G ⟨_, hu⟩ ⟨_, hv⟩ q => by
  subst hu hv
  refine PyProof.Rows.notIn_str ?_
  rw [show (⟨[c].toArray⟩ : Str) = ⟨#[c]⟩ from rfl, StrLaws.found_one, contains_dec]; exact q
theorem c_inl {i : Int} {l : List Int} : Cmp C k .In (.int i) (.list (l.map .int)) (l.any (· == i)) := fun A g s u v E Q _ G ⟨_, hu⟩ ⟨_, ws, _, hv, hg, hr⟩ q => by
  subst hu hv
  exact in_list_ints (R.isList G.stays hg) (ints_are hr) q
theorem c_in34 {i : Int} : Cmp C k .In (.int i) (.list [.int 3, .int 4]) ([3, 4].any (· == i)) := c_inl (l := [3, 4])
theorem c_in12 {i : Int} : Cmp C k .In (.int i) (.list [.int 1, .int 2]) ([1, 2].any (· == i)) := c_inl (l := [1, 2])
theorem c_dO {o : Option T} : Cmp C k .IsNot (dO o) .none o.isSome := match o with | none => c_no1 | some _ => c_no2
theorem e_if {t b o p c x y} (ht : EvT C k sc ρ t c) (hb : Ev C k sc ρ b x) (ho : Ev C k sc ρ o y) : Ev C k sc ρ (.IfExp t b o p) (if c = true then x else y) := by
  cases c with
  | true => exact e_ifT ht hb
  | false => exact e_ifF ht ho
theorem e_andT {x y p a b} (hx : Ev C k sc ρ x a) (ht : Tru C a true) (hy : Ev C k sc ρ y b) : Ev C k sc ρ (.BoolOp .And [x, y] p) b := fun X g s I E Q q => by
  rw [arm_eval_BoolOp]
  exact wpC_bind (hx X g s I E _ fun v g1 s1 t1 hv => wpC_bind (wpC_standAt (wpC_bind (wpC_holding (wpC_of <| ht X.A g1 s1 v _ _ t1.good hv fun s2 t2 => hy X g1 s2 (I.st (t1.trans t2)) E Q fun w g3 s3 t3 hw => q _ _ _ (t1.trans (t2.trans t3)) hw)))))
theorem e_andF {x y p a} (hx : Ev C k sc ρ x a) (ht : Tru C a false) : Ev C k sc ρ (.BoolOp .And [x, y] p) a := fun X g s I E Q q => by
  rw [arm_eval_BoolOp]
  exact wpC_bind (hx X g s I E _ fun v g1 s1 t1 hv => wpC_bind (wpC_standAt (wpC_bind (wpC_holding (wpC_of <| ht X.A g1 s1 v _ _ t1.good hv fun s2 t2 => wpC_pure (q _ _ _ (t1.trans t2) hv))))))
theorem e_andB {x y p a b} (hx : Ev C k sc ρ x (.bool a)) (hy : Ev C k sc ρ y (.bool b)) : Ev C k sc ρ (.BoolOp .And [x, y] p) (.bool (a && b)) := by
  cases a with
  | true => exact e_andT hx tr_bool hy
  | false => exact e_andF hx tr_bool
theorem wpC_allTrue_And_cons {A : Around} {E : Value → Shared → Prop} {s : Shared} {env : Env} {x : Expr} {rest : List Expr} {Q : Bool → Shared → Prop}
    (h : wpC C A (isTrue x env (eval x env)) (fun b s₁ => if b then wpC C A (allTrue .And rest env) Q E s₁ else Q false s₁) E s) : wpC C A (allTrue .And (x :: rest) env) Q E s := by
  show wpC C A (do match BoolOp.And, ← isTrue x env (eval x env) with | .And, false => pure false | .Or, true => pure true | _, _ => allTrue .And rest env) Q E s
  refine wpC_bind (wpC_mono h (fun b s₁ h₁ => ?_) fun _ _ x => x)
  cases b
  · exact wpC_pure h₁
  · exact h₁
theorem a_nilA : EvA C k sc ρ .And [] true := fun X g s I E Q q => wpC_allTrue_And_nil (q _ _ _ (Step.refl I.gd) rfl)
theorem a_and {x r b c} (h : EvT C k sc ρ x b) (hr : EvA C k sc ρ .And r c) : EvA C k sc ρ .And (x :: r) (b && c) := fun X g s I E Q q =>
  wpC_allTrue_And_cons (h X g s I E _ fun v g1 s1 t hv => by
    subst hv
    cases v with
    | true => exact hr X g1 s1 (I.st t) E Q fun w g' s' t' hw => q _ _ _ (t.trans t') hw
    | false => exact q _ _ _ t rfl)
theorem a_and0 {x r} (h : EvT C k sc ρ x false) : EvA C k sc ρ .And (x :: r) false := fun X g s I E Q q =>
  wpC_allTrue_And_cons (h X g s I E _ fun v g1 s1 t hv => by subst hv; exact q _ _ _ t rfl)
theorem c_eqc {c d : Nat} (h : c < 55296) (hd : d < 55296) : Cmp C k .Eq (.str [c]) (.str [d]) (decide (c = d)) := by
  have h1 : okT [c] = true := by unfold okT; simp [h]
  have h2 : okT [d] = true := by unfold okT; simp [hd]
  have := c_eq (C := C) (k := k) (eq_str h1 h2)
  have e : decide ([c] = [d]) = decide (c = d) := by simp
  rw [e] at this; exact this
theorem c_nec {c d : Nat} (h : c < 55296) (hd : d < 55296) : Cmp C k .NotEq (.str [c]) (.str [d]) (!decide (c = d)) := by
  have h1 : okT [c] = true := by unfold okT; simp [h]
  have h2 : okT [d] = true := by unfold okT; simp [hd]
  have := c_ne (C := C) (k := k) (eq_str h1 h2)
  have e : decide ([c] = [d]) = decide (c = d) := by simp
  rw [e] at this; exact this
theorem e_isB (M : Bs C) {x tp fp pos b} (hx : Ev C k sc ρ x (.bytes b)) (hs : isStar x = false) (h : (sc.lookup ("isinstance" : Str) == some .globalImplicit && sc.lookup ("bytes" : Str) == some .globalImplicit) = true) : Ev C k sc ρ (.Call (.Name "isinstance" fp) [x, .Name "bytes" tp] [] pos) (.bool true) := fun X g s I E Q q => by
  rw [Bool.and_eq_true, beq_iff_eq, beq_iff_eq] at h
  refine Call_NameC rfl (wpC_of <| load_bltn I.fr I.gd (I.kg h.1) (by decide +kernel) (M.at bv_isi).1 (M.at bv_isi).2 ?_)
  have e : starEach [x, .Name "bytes" tp] X.env = [(false, eval x X.env), (false, eval (.Name "bytes" tp) X.env)] := by rw [starEach_plain hs]; rfl
  refine callWith_builtinC (by rw [e]; rfl) ?_
  rw [e]
  refine evalArgs_plainC (spliced_consC (hx X g s I E _ fun v g1 s1 t1 hv => spliced_consC (wpC_of <| load_bltn (I.st t1).fr t1.good (I.kg h.2) (by decide +kernel) (M.at bv_bytes).1 (M.at bv_bytes).2 (spliced_nilC ?_))))
  obtain ⟨t, rfl⟩ := hv
  exact wpC_of <| call_isinstance_yes (PySem.W.typeIs_bytes _ _ _) F.isi_meta_bytes (by rw [isSubtype_type]; kernel_rfl) (q _ _ _ t1 rfl)
theorem bi_md12 {x : Int} : Bin C k .Mod (.int x) (.int 12) (.int ((x.fmod 12).toNat : Nat)) := bi_mod (by decide) fmod_12
theorem s_ifE {σ : Store} {t b o pos c} {K : Store → Fl → Prop} (ht : EvT C k sc (fz σ) t c) (hT : c = true → Ex C k sc σ b K) (hF : c = false → Ex C k sc σ o K) : Es C k sc σ (.If t b o pos) K := by
  cases c with
  | true => exact s_ifT ht (hT rfl)
  | false => exact s_ifF ht (hF rfl)
theorem s_one {σ σ' : Store} {st} (h : S1 C k sc σ st σ') {K : Store → Fl → Prop} (q : K σ' .nxt) : Ex C k sc σ [st] K := x_seq h (x_nil q)
end Mine
end
section
open PySem PySem.W PyProof.Rows
namespace Mine

noncomputable abbrev RM := Sre.M
noncomputable def RM.sn (m : RM) (s : Sre.Seen) : RM := { m with seen := s }
noncomputable def RM.to (m : RM) (s : Sre.Seen) (pc pos : Nat) : RM := { m with seen := s, pc := pc, pos := pos }
noncomputable def RM.go (m : RM) (pc pos : Nat) : RM := { m with pc := pc, pos := pos }
noncomputable def RM.hand (m : RM) : RM := { m with handed := m.pos }
noncomputable def RM.rep (m : RM) (pc pos : Nat) (c : Int) : RM :=
  { m with frames := { wait := .giveBack, pc := m.pc, pos := pos, outermost := m.outermost, count := c, kept := m.keep m.inner.isSome } :: m.frames, weight := m.weight + 1 + (m.keep m.inner.isSome).marks.size, pc := pc, pos := pos, handed := pos }

theorem step_done {m : RM} (h : m.outcome.isSome = true) : m.step = m := by unfold Sre.M.step; rw [if_pos h]
theorem runFor_done {m : RM} (h : m.outcome.isSome = true) : ∀ n, Sre.M.runFor n m = m
  | 0 => rfl
  | n + 1 => by unfold Sre.M.runFor; rw [if_pos h]
theorem runFor_succ (n : Nat) (m : RM) : Sre.M.runFor (n + 1) m = Sre.M.runFor n m.step := by
  show (if m.outcome.isSome then m else Sre.M.runFor n m.step) = _
  split
  · rename_i h; rw [step_done h, runFor_done h]
  · rfl
theorem runFor_add : ∀ (a b : Nat) (m : RM), Sre.M.runFor (a + b) m = Sre.M.runFor b (Sre.M.runFor a m)
  | 0, b, m => by rw [Nat.zero_add]; rfl
  | a + 1, b, m => by rw [Nat.add_right_comm, runFor_succ, runFor_add a b, runFor_succ]

noncomputable def To (b : Nat) (m m' : RM) : Prop := ∀ sn : Sre.Seen, ∃ n, n ≤ b ∧ ∃ sn', Sre.M.runFor n (m.sn sn) = m'.sn sn'

theorem To.refl (m : RM) : To 0 m m := fun sn => ⟨0, Nat.le_refl _, sn, rfl⟩
theorem To.trans {a b : Nat} {m m' m'' : RM} (x : To a m m') (y : To b m' m'') : To (a + b) m m'' := fun sn => by
  refine Classical.byContradiction fun ng0 => ?_
  obtain ⟨n, hn, sn', e⟩ := x sn
  obtain ⟨n', hn', sn'', e'⟩ := y sn'
  refine ng0 ?_
  exact ⟨n + n', by omega, sn'', by rw [runFor_add, e, e']⟩
theorem To.mono {a b : Nat} {m m' : RM} (x : To a m m') (h : a ≤ b) : To b m m' := fun sn => by
  obtain ⟨n, hn, r⟩ := x sn
  exact ⟨n, by omega, r⟩
theorem To.step {m m' : RM} (h : ∀ sn : Sre.Seen, ∃ sn', (m.sn sn).step = m'.sn sn') : To 1 m m' := fun sn => by
  obtain ⟨sn', e⟩ := h sn
  exact ⟨1, Nat.le_refl _, sn', by rw [runFor_succ]; exact e⟩
structure Live (m : RM) : Prop where
  out : m.outcome = none
  ans : m.answer = none
  pc : m.pc < m.code.size

theorem To.exec {m m' : RM} (l : Live m) (h : ∀ sn : Sre.Seen, ∃ sn', (m.sn sn).exec = m'.sn sn') : To 1 m m' := To.step fun sn => by
  obtain ⟨sn', e⟩ := h sn
  refine ⟨sn', ?_⟩
  rw [← e]
  unfold Sre.M.step
  rw [show (m.sn sn).outcome = none from l.out, show (m.sn sn).answer = none from l.ans]
  exact if_pos (show (m.sn sn).pc < (m.sn sn).code.size from l.pc)

theorem exec_succ {m : RM} (h : m.word 0 = 1) : m.exec = if (m.outermost && ((m.wholeText && m.pos != m.lim) || (m.mustAdvance && m.pos == m.start))) = true then (m.sn (m.seen.add 1)).say false else (m.sn (m.seen.add 1)).hand.say true := by
  unfold Sre.M.exec
  rw [h]
  rfl
theorem exec_at {m : RM} (h : m.word 0 = 6) : m.exec = (match (m.sn (m.seen.add 6)).isAt (m.word 1) with | .error why => (m.sn (m.seen.add 6)).stick why | .ok yes => if yes then m.to ((m.seen.add 6).add (43 + m.word 1)) (m.pc + 2) m.pos else (m.sn ((m.seen.add 6).add (43 + m.word 1))).say false) := by
  unfold Sre.M.exec
  rw [h]
  rfl
noncomputable def one (m : RM) (s : Sre.Seen) : RM := if m.pos ≥ m.lim then (m.sn s).say false else (match Sre.accepts m.code m.pc (m.text.getD m.pos 0) s with | .error why => (m.sn s).stick why | .ok (false, s) => (m.sn s).say false | .ok (true, s) => m.to s (m.pc + Sre.itemWidth m.code m.pc) (m.pos + 1))
theorem exec_any {m : RM} (h : m.word 0 = 2) : m.exec = one m (m.seen.add 2) := by
  unfold Sre.M.exec
  rw [h]
  rfl
theorem exec_lit {m : RM} (h : m.word 0 = 16) : m.exec = one m (m.seen.add 16) := by
  unfold Sre.M.exec
  rw [h]
  rfl
theorem exec_in {m : RM} (h : m.word 0 = 13) : m.exec = one m (m.seen.add 13) := by
  unfold Sre.M.exec
  rw [h]
  rfl
theorem exec_mark {m : RM} (h : m.word 0 = 17) : m.exec = (m.sn (m.seen.add 17)).mark (m.word 1) := by
  unfold Sre.M.exec
  rw [h]
  rfl
noncomputable def repOne (m : RM) (s : Sre.Seen) : RM := if (m.word 2 : Int) > (m.lim : Int) - m.pos then (m.sn s).say false else
  match Sre.run m.code m.text (m.pc + 4) (min (m.word 3) ((m.lim : Int) - m.pos).toNat) m.pos 0 (s.add (m.word 4)) with
  | .error why => (m.sn s).stick why
  | .ok (n, s) => if n < m.word 2 then (m.sn s).say false else (m.to s m.pc (m.pos + n)).afterRun .giveBack n ((m.to s m.pc (m.pos + n)).keep m.inner.isSome)
theorem rep_run {m : RM} {s s' : Sre.Seen} {j : Nat} (hl : m.word 2 ≤ m.lim - m.pos) (hp : m.pos ≤ m.lim) (e : Sre.run m.code m.text (m.pc + 4) (min (m.word 3) (m.lim - m.pos)) m.pos 0 (s.add (m.word 4)) = .ok (j, s')) :
    repOne m s = if j < m.word 2 then (m.sn s').say false else (m.to s' m.pc (m.pos + j)).afterRun .giveBack j ((m.to s' m.pc (m.pos + j)).keep m.inner.isSome) := by
  unfold repOne
  rw [if_neg (by omega), show ((m.lim : Int) - m.pos).toNat = m.lim - m.pos by omega, e]
theorem exec_rep {m : RM} (h : m.word 0 = 24) : m.exec = repOne m (m.seen.add 24) := by
  unfold Sre.M.exec
  rw [h]
  rfl
theorem one_yes {m : RM} {s s' : Sre.Seen} (hp : m.pos < m.lim) (h : Sre.accepts m.code m.pc (m.text.getD m.pos 0) s = .ok (true, s')) : one m s = m.to s' (m.pc + Sre.itemWidth m.code m.pc) (m.pos + 1) := by
  unfold one
  rw [if_neg (Nat.not_le.mpr hp), h]
theorem one_no {m : RM} {s s' : Sre.Seen} (h : m.pos < m.lim → Sre.accepts m.code m.pc (m.text.getD m.pos 0) s = .ok (false, s')) : ∃ s', one m s = (m.sn s').say false := by
  unfold one
  by_cases hp : m.pos ≥ m.lim
  · exact ⟨s, if_pos hp⟩
  · exact ⟨s', by rw [if_neg hp, h (Nat.not_le.mp hp)]⟩
theorem acc_lit1 {code : Array Nat} {i c : Nat} {s : Sre.Seen} (h : code.getD i 0 = 16) : Sre.accepts code i c s = .ok (c == code.getD (i + 1) 0, s) := by
  unfold Sre.accepts
  rw [h]
  rfl
theorem acc_any1 {code : Array Nat} {i c : Nat} {s : Sre.Seen} (h : code.getD i 0 = 2) : Sre.accepts code i c s = .ok (c != 10, s) := by
  unfold Sre.accepts
  rw [h]
  rfl
theorem acc_set {code : Array Nat} {i c : Nat} {s : Sre.Seen} (h : code.getD i 0 = 13) : Sre.accepts code i c s = Sre.inSet code c code.size (i + 2) true s := by
  unfold Sre.accepts
  rw [h]
  rfl
theorem wid_lit {code : Array Nat} {i : Nat} (h : code.getD i 0 = 16) : Sre.itemWidth code i = 2 := by
  unfold Sre.itemWidth
  rw [h]
  rfl
theorem wid_any {code : Array Nat} {i : Nat} (h : code.getD i 0 = 2) : Sre.itemWidth code i = 1 := by
  unfold Sre.itemWidth
  rw [h]
  rfl
theorem wid_in {code : Array Nat} {i : Nat} (h : code.getD i 0 = 13) : Sre.itemWidth code i = 1 + code.getD (i + 1) 0 := by
  unfold Sre.itemWidth
  rw [h]
  rfl

section
variable {m : RM}
theorem at0_eq {m : RM} {s : Sre.Seen} : (m.sn s).isAt 0 = .ok (m.pos == 0) := rfl
theorem to_at0 (l : Live m) (hw : m.code.getD m.pc 0 = 6) (hk : m.code.getD (m.pc + 1) 0 = 0) (hp : m.pos = 0) : To 1 m (m.go (m.pc + 2) m.pos) := To.exec l fun sn => ⟨(sn.add 6).add 43, by
  rw [exec_at (m := m.sn sn) hw, show (m.sn sn).word 1 = 0 from hk, at0_eq, show ((m.sn sn).pos == 0) = true from beq_iff_eq.mpr hp]; rfl⟩
theorem to_at0_no (l : Live m) (hw : m.code.getD m.pc 0 = 6) (hk : m.code.getD (m.pc + 1) 0 = 0) (hp : m.pos ≠ 0) : To 1 m (m.say false) := To.exec l fun sn => ⟨(sn.add 6).add 43, by
  rw [exec_at (m := m.sn sn) hw, show (m.sn sn).word 1 = 0 from hk, at0_eq, show ((m.sn sn).pos == 0) = false from beq_eq_false_iff_ne.mpr hp]; rfl⟩
theorem to_one {s : Nat} {n : Nat} (l : Live m) (he : ∀ sn, (m.sn sn).exec = one (m.sn sn) (sn.add s)) (hw : Sre.itemWidth m.code m.pc = n) (hp : m.pos < m.lim) (ha : ∀ sn, ∃ sn', Sre.accepts m.code m.pc (m.text.getD m.pos 0) sn = .ok (true, sn')) : To 1 m (m.go (m.pc + n) (m.pos + 1)) := To.exec l fun sn => by
  obtain ⟨s', e⟩ := ha (sn.add s)
  exact ⟨s', by rw [he, one_yes (m := m.sn sn) hp e, ← hw]; rfl⟩
theorem to_one_no {s : Nat} (l : Live m) (he : ∀ sn, (m.sn sn).exec = one (m.sn sn) (sn.add s)) (ha : m.pos < m.lim → ∀ sn, ∃ sn', Sre.accepts m.code m.pc (m.text.getD m.pos 0) sn = .ok (false, sn')) : To 1 m (m.say false) := To.exec l fun sn => by
  by_cases hp : m.pos < m.lim
  · refine Classical.byContradiction fun ng0 => ?_
    obtain ⟨s', e⟩ := ha hp (sn.add s)
    obtain ⟨s'', e'⟩ := one_no (m := m.sn sn) (s := sn.add s) fun _ => e
    refine ng0 ?_
    exact ⟨s'', by rw [he, e']; rfl⟩
  · exact ⟨sn.add s, by rw [he]; exact if_pos (Nat.not_lt.mp hp)⟩
theorem to_lit (l : Live m) (hw : m.code.getD m.pc 0 = 16) {c : Nat} (hk : m.code.getD (m.pc + 1) 0 = c) (hp : m.pos < m.lim) (hc : m.text.getD m.pos 0 = c) : To 1 m (m.go (m.pc + 2) (m.pos + 1)) :=
  to_one l (fun sn => exec_lit (m := m.sn sn) hw) (wid_lit hw) hp fun sn => ⟨sn, by rw [acc_lit1 hw, hk, hc, beq_self_eq_true]⟩
theorem to_lit_no (l : Live m) (hw : m.code.getD m.pc 0 = 16) {c : Nat} (hk : m.code.getD (m.pc + 1) 0 = c) (hc : m.pos < m.lim → m.text.getD m.pos 0 ≠ c) : To 1 m (m.say false) :=
  to_one_no l (fun sn => exec_lit (m := m.sn sn) hw) fun hp sn => ⟨sn, by rw [acc_lit1 hw, hk, beq_eq_false_iff_ne.mpr (hc hp)]⟩
theorem to_any (l : Live m) (hw : m.code.getD m.pc 0 = 2) (hp : m.pos < m.lim) (hc : m.text.getD m.pos 0 ≠ 10) : To 1 m (m.go (m.pc + 1) (m.pos + 1)) :=
  to_one l (fun sn => exec_any (m := m.sn sn) hw) (wid_any hw) hp fun sn => ⟨sn, by rw [acc_any1 hw, bne_iff_ne.mpr hc]⟩
theorem to_any_no (l : Live m) (hw : m.code.getD m.pc 0 = 2) (hc : m.pos < m.lim → m.text.getD m.pos 0 = 10) : To 1 m (m.say false) :=
  to_one_no l (fun sn => exec_any (m := m.sn sn) hw) fun hp sn => ⟨sn, by rw [acc_any1 hw, hc hp]; rfl⟩
theorem to_mark (l : Live m) (hw : m.code.getD m.pc 0 = 17) {i : Nat} (hk : m.code.getD (m.pc + 1) 0 = i) : To 1 m (m.mark i) := To.exec l fun sn => ⟨sn.add 17, by
  rw [exec_mark (m := m.sn sn) hw, show (m.sn sn).word 1 = i from hk]; rfl⟩
theorem to_success (l : Live m) (hw : m.code.getD m.pc 0 = 1) (hg : (m.outermost && ((m.wholeText && m.pos != m.lim) || (m.mustAdvance && m.pos == m.start))) = false) : To 1 m (m.hand.say true) := To.exec l fun sn => ⟨sn.add 1, by
  rw [exec_succ (m := m.sn sn) hw]; exact if_neg (fun q => Bool.false_ne_true (hg.symm.trans q))⟩
theorem to_success_no (l : Live m) (hw : m.code.getD m.pc 0 = 1) (hg : (m.outermost && ((m.wholeText && m.pos != m.lim) || (m.mustAdvance && m.pos == m.start))) = true) : To 1 m (m.say false) := To.exec l fun sn => ⟨sn.add 1, by
  rw [exec_succ (m := m.sn sn) hw]; exact if_pos hg⟩
theorem to_in (l : Live m) (hw : m.code.getD m.pc 0 = 13) {k : Nat} (hk : m.code.getD (m.pc + 1) 0 = k) (hp : m.pos < m.lim) (hc : ∀ sn, ∃ sn', Sre.inSet m.code (m.text.getD m.pos 0) m.code.size (m.pc + 2) true sn = .ok (true, sn')) :
    To 1 m (m.go (m.pc + (1 + k)) (m.pos + 1)) := to_one l (fun sn => exec_in (m := m.sn sn) hw) ((wid_in hw).trans (congrArg _ hk)) hp fun sn => let ⟨s, e⟩ := hc sn; ⟨s, (acc_set hw).trans e⟩

theorem to_rep1 (l : Live m) (hw : m.code.getD m.pc 0 = 24) {least most k : Nat} (h2 : m.code.getD (m.pc + 2) 0 = least) (h3 : m.code.getD (m.pc + 3) 0 = most) (h1 : m.code.getD (m.pc + 1) 0 = k)
    {j : Nat} (hr : ∀ sn, ∃ sn', Sre.run m.code m.text (m.pc + 4) (min most (m.lim - m.pos)) m.pos 0 sn = .ok (j, sn')) (hp : m.pos ≤ m.lim) (hl : least ≤ m.lim - m.pos) (hj : least ≤ j)
    (hwt : m.weight + 1 + (m.keep m.inner.isSome).marks.size ≤ 16777216) :
    To 1 m (m.rep (m.pc + 1 + k) (m.pos + j) j) := To.exec l fun sn => by
  subst h2 h3 h1
  obtain ⟨sn', e⟩ := hr ((sn.add 24).add (m.code.getD (m.pc + 4) 0))
  exact ⟨sn', (exec_rep (m := m.sn sn) hw).trans ((rep_run (m := m.sn sn) hl hp e).trans ((if_neg (Nat.not_lt.mpr hj)).trans (if_neg (Nat.not_lt.mpr hwt))))⟩
theorem to_rep1_no (l : Live m) (hw : m.code.getD m.pc 0 = 24) {least most : Nat} (h2 : m.code.getD (m.pc + 2) 0 = least) (h3 : m.code.getD (m.pc + 3) 0 = most)
    {j : Nat} (hr : ∀ sn, ∃ sn', Sre.run m.code m.text (m.pc + 4) (min most (m.lim - m.pos)) m.pos 0 sn = .ok (j, sn')) (hp : m.pos ≤ m.lim) (hj : j < least) :
    ∃ p, To 1 m ((m.go m.pc p).say false) := ⟨m.pos, To.exec l fun sn => by
  subst h2 h3
  by_cases hl : m.code.getD (m.pc + 2) 0 ≤ m.lim - m.pos
  · obtain ⟨sn', e⟩ := hr ((sn.add 24).add (m.code.getD (m.pc + 4) 0))
    exact ⟨sn', (exec_rep (m := m.sn sn) hw).trans ((rep_run (m := m.sn sn) hl hp e).trans (if_pos hj))⟩
  · exact ⟨sn.add 24, (exec_rep (m := m.sn sn) hw).trans (if_pos (show (m.code.getD (m.pc + 2) 0 : Int) > (m.lim : Int) - m.pos by omega))⟩⟩
end

noncomputable def RM.popd (m : RM) (s : Sre.Seen) (f : Sre.Frame) (rest : List Sre.Frame) : RM := { m with seen := s, answer := none, frames := rest, weight := m.weight - (1 + f.kept.marks.size), pc := f.pc, pos := f.pos, outermost := f.outermost }
theorem To.answer {m m' : RM} {f : Sre.Frame} {rest : List Sre.Frame} {yes : Bool} (ho : m.outcome = none) (ha : m.answer = some yes) (hf : m.frames = f :: rest)
    (h : ∀ sn : Sre.Seen, ∃ sn', Sre.M.resume (m.popd sn f rest) f yes = m'.sn sn') : To 1 m m' := To.step fun sn => by
  obtain ⟨sn', e⟩ := h sn
  refine ⟨sn', ?_⟩
  rw [← e]
  unfold Sre.M.step
  rw [show (m.sn sn).answer = some yes from ha, show (m.sn sn).frames = f :: rest from hf]
  refine (if_neg (by rw [show (m.sn sn).outcome = none from ho]; exact Bool.false_ne_true)).trans ?_
  rfl
noncomputable def RM.over (m : RM) (yes : Bool) : RM := { m with outcome := some (if yes then .matched else .failed) }
theorem exec_until {m : RM} (h : m.word 0 = 18) : m.exec = ((m.sn (m.seen.add 18)).go (m.pc + 1) m.pos).until_ true := by
  unfold Sre.M.exec
  rw [h]
  rfl
theorem exec_repeat {m : RM} (h : m.word 0 = 23) : m.exec = ({ m with seen := m.seen.add 23, loops := m.loops.push { pc := m.pc, outer := m.inner }, inner := some m.loops.size } : RM).attempt { wait := .closeLoop, pc := m.pc, pos := m.pos, outermost := m.outermost, loop := m.loops.size } (m.pc + 1 + m.word 1) m.pos m.outermost := by
  unfold Sre.M.exec
  rw [h]
  rfl
theorem until_more {m : RM} {i : Nat} (hi : m.inner = some i) (h1 : ¬ (m.loopAt i).count + 1 < (m.code.getD ((m.loopAt i).pc + 2) 0 : Nat)) (h2 : m.code.getD ((m.loopAt i).pc + 3) 0 = 4294967295) (h3 : ((m.loopAt i).began != some m.pos) = true) :
    m.until_ true = m.round .maxMore i ((m.loopAt i).count + 1) true (m.keep true) := by
  unfold Sre.M.until_
  rw [hi]
  refine (if_neg h1).trans ((if_neg Bool.false_ne_true).trans (if_pos ?_))
  rw [h2, h3, show ((4294967295 : Nat) == Sre.maxRepeat) = true from rfl, Bool.or_true]
  rfl
theorem To.finish {m : RM} {yes : Bool} (ho : m.outcome = none) (ha : m.answer = some yes) (hf : m.frames = []) : To 1 m (m.over yes) := To.step fun sn => ⟨sn, by
  unfold Sre.M.step
  rw [show (m.sn sn).answer = some yes from ha, show (m.sn sn).frames = [] from hf]
  refine (if_neg (by rw [show (m.sn sn).outcome = none from ho]; exact Bool.false_ne_true)).trans ?_
  show ({ (m.sn sn) with frames := [], answer := some yes, outcome := some (if yes then .matched else .failed) } : RM) = _
  rw [← hf, ← ha]
  rfl⟩
theorem res_back_yes {m : RM} {f : Sre.Frame} (h : f.wait = .giveBack) : m.resume f true = m.say true := by
  unfold Sre.M.resume
  rw [h]
  rfl
theorem res_next_yes {m : RM} {f : Sre.Frame} (h : f.wait = .nextStart) : m.resume f true = m.say true := by
  unfold Sre.M.resume
  rw [h]
  rfl
theorem res_back {m : RM} {f : Sre.Frame} (h : f.wait = .giveBack) : m.resume f false = if f.count - 1 < m.word 2 then (m.putBack f.kept).say false else (RM.go (m.putBack f.kept) (m.putBack f.kept).pc (f.pos - 1)).afterRun .giveBack (f.count - 1) f.kept := by
  unfold Sre.M.resume
  rw [h]
  rfl
theorem res_next {m : RM} {f : Sre.Frame} (h : f.wait = .nextStart) : m.resume f false = if f.pos < m.lastStart then ({ m with mustAdvance := false } : RM).attemptFrom (f.pos + 1) false else m.say false := by
  unfold Sre.M.resume
  rw [h]
  rfl
theorem res_close {m : RM} {f : Sre.Frame} {yes : Bool} (h : f.wait = .closeLoop) : m.resume f yes = ({ m with inner := (m.loopAt f.loop).outer, loops := m.loops.pop } : RM).say yes := by
  unfold Sre.M.resume
  rw [h]
theorem res_tail {m : RM} {f : Sre.Frame} {yes : Bool} (h : f.wait = .maxTail) : m.resume f yes = ({ m with inner := some f.loop } : RM).say yes := by
  unfold Sre.M.resume
  rw [h]
theorem res_more_yes {m : RM} {f : Sre.Frame} (h : f.wait = .maxMore) : m.resume f true = (m.setLoop f.loop fun l => { l with began := f.began }).say true := by
  unfold Sre.M.resume
  rw [h]
  rfl
theorem res_more {m : RM} {f : Sre.Frame} (h : f.wait = .maxMore) : m.resume f false = (((m.setLoop f.loop fun l => { l with began := f.began }).putBack f.kept).setLoop f.loop fun l => { l with count := f.count - 1 }).afterLoop .maxTail f.loop f.count fun _ => false := by
  unfold Sre.M.resume
  rw [h]
  rfl
inductive Goes (N : Nat) (m : RM) (P : RM → Prop) : Prop where
  | mk (m' : RM) (t : To N m m') (h : P m')
theorem Goes.bind {n k N : Nat} {m : RM} {P Q : RM → Prop} (g : Goes n m P) (f : ∀ m', P m' → Goes k m' Q) (h : n + k ≤ N) : Goes N m Q := by
  cases g with
  | mk m' t hp => cases f m' hp with
    | mk m'' t' hq => exact ⟨m'', (t.trans t').mono h, hq⟩
theorem Goes.pre {n k N : Nat} {m m' : RM} {Q : RM → Prop} (t : To n m m') (g : Goes k m' Q) (h : n + k ≤ N) : Goes N m Q := by
  cases g with
  | mk m'' t' hq => exact ⟨m'', (t.trans t').mono h, hq⟩
theorem Goes.to {n N : Nat} {m m' : RM} {P : RM → Prop} (t : To n m m') (h : P m') (hn : n ≤ N) : Goes N m P := ⟨m', t.mono hn, h⟩
noncomputable def Miss (m : RM) : Prop := m.outcome = some .failed
end Mine
end
section
open PySem PySem.W PyProof.Rows
namespace Mine

noncomputable abbrev st (code : Array Nat) (x : List Nat) (ls : Nat) (wh mu : Bool) (s : Nat) (pc pos hd : Nat) (om : Bool) (mk : Array (Option Nat)) (lm li : Int) (lp : Array Sre.Loop) (inn : Option Nat) (fr : List Sre.Frame) (wt : Nat) (ans : Option Bool) : RM :=
  { code, text := x.toArray, lim := x.length, start := s, lastStart := ls, wholeText := wh, mustAdvance := mu, pc, pos, handed := hd, outermost := om, marks := mk, lastmark := lm, lastindex := li, loops := lp, inner := inn, frames := fr, weight := wt, answer := ans }

section
variable {code : Array Nat} {x : List Nat} {ls : Nat} {wh mu : Bool} {s pc pos hd : Nat} {om : Bool} {mk : Array (Option Nat)} {lm li : Int} {lp : Array Sre.Loop} {inn : Option Nat} {f : Sre.Frame} {fr : List Sre.Frame} {wt : Nat} {ans : Option Bool}

theorem pop_yes (hw : f.wait = .giveBack ∨ f.wait = .nextStart) :
    To 1 (st code x ls wh mu s pc pos hd om mk lm li lp inn (f :: fr) wt (some true)) (st code x ls wh mu s f.pc f.pos hd f.outermost mk lm li lp inn fr (wt - (1 + f.kept.marks.size)) (some true)) :=
  To.answer rfl rfl rfl fun sn => ⟨sn, by
    rcases hw with hw | hw
    · exact (res_back_yes hw).trans rfl
    · exact (res_next_yes hw).trans rfl⟩

theorem giveBack_no {cnt : Int} {p q : Nat} {o : Bool} {kl ki : Int} (h : cnt - 1 < (code.getD (p + 2) 0 : Nat)) :
    To 1 (st code x ls wh mu s pc pos hd om mk lm li lp inn ({ wait := .giveBack, pc := p, pos := q, outermost := o, count := cnt, kept := { lastmark := kl, lastindex := ki } } :: fr) wt (some false))
      (st code x ls wh mu s p q hd o mk kl ki lp inn fr (wt - 1) (some false)) :=
  To.answer rfl rfl rfl fun sn => ⟨sn, (res_back rfl).trans ((if_pos h).trans rfl)⟩

theorem giveBack_more {cnt : Int} {p q k : Nat} {o : Bool} {kl ki : Int} (h : ¬ (cnt - 1 < (code.getD (p + 2) 0 : Nat))) (h1 : code.getD (p + 1) 0 = k) (hwt : wt ≤ 16777216) (hw1 : 1 ≤ wt) :
    To 1 (st code x ls wh mu s pc pos hd om mk lm li lp inn ({ wait := .giveBack, pc := p, pos := q, outermost := o, count := cnt, kept := { lastmark := kl, lastindex := ki } } :: fr) wt (some false))
      (st code x ls wh mu s (p + 1 + k) (q - 1) (q - 1) o mk kl ki lp inn ({ wait := .giveBack, pc := p, pos := q - 1, outermost := o, count := cnt - 1, kept := { lastmark := kl, lastindex := ki } } :: fr) wt none) :=
  To.answer rfl rfl rfl fun sn => ⟨sn, by
    obtain ⟨v, rfl⟩ : ∃ v, wt = v + 1 := ⟨wt - 1, (Nat.sub_add_cancel hw1).symm⟩
    subst h1
    exact (res_back rfl).trans ((if_neg h).trans ((if_neg (show ¬ (16777216 < v + 1 + 0) by omega)).trans rfl))⟩

theorem next_no {p q : Nat} {o : Bool} (h : ¬ q < ls) :
    To 1 (st code x ls wh mu s pc pos hd om mk lm li lp inn [{ wait := .nextStart, pc := p, pos := q, outermost := o }] wt (some false))
      (st code x ls wh mu s p q hd o mk lm li lp inn [] (wt - 1) (some false)) :=
  To.answer rfl rfl rfl fun sn => ⟨sn, (res_next rfl).trans ((if_neg h).trans rfl)⟩
theorem next_more {p q : Nat} {o : Bool} (h : q < ls) (hf : ∀ m : RM, m.code = code → m.hasFirstSet = false) :
    To 1 (st code x ls wh mu s pc pos hd om mk lm li lp inn [{ wait := .nextStart, pc := p, pos := q, outermost := o }] 1 (some false))
      (st code x ls wh false (q + 1) p (q + 1) (q + 1) false mk (-1) (-1) lp inn [{ wait := .nextStart, pc := p, pos := q + 1, outermost := false }] 1 none) :=
  To.answer rfl rfl rfl fun sn => ⟨sn, (res_next rfl).trans ((if_pos h).trans ((if_pos (by rw [hf _ rfl]; rfl)).trans rfl))⟩

theorem later_starts (h5 : code.getD pc 0 = 6) (h6 : code.getD (pc + 1) 0 = 0) (hpc : pc < code.size) (hf : ∀ m : RM, m.code = code → m.hasFirstSet = false) : ∀ (k : Nat) {q : Nat} {s hd : Nat} {mu : Bool} {o : Bool} {mk : Array (Option Nat)} {lm li : Int}, 0 < q → ls - q = k →
    Goes (2 * k + 3) (st code x ls wh mu s pc q hd o mk lm li #[] none [{ wait := .nextStart, pc := pc, pos := q, outermost := o }] 1 none) Miss
  | 0, q, s, hd, mu, o, mk, lm, li, hq, hk => Goes.to ((To.trans (to_at0_no ⟨rfl, rfl, hpc⟩ h5 h6 (Nat.ne_of_gt hq)) (next_no (ls := ls) (Nat.not_lt.mpr (Nat.sub_eq_zero_iff_le.mp hk)))).trans (To.finish (yes := false) rfl rfl rfl)) (by exact rfl) (Nat.le_refl _)
  | k + 1, q, s, hd, mu, o, mk, lm, li, hq, hk => Goes.pre (k := 2 * k + 3) (To.trans (to_at0_no ⟨rfl, rfl, hpc⟩ h5 h6 (Nat.ne_of_gt hq)) (next_more (ls := ls) (Nat.lt_of_sub_eq_succ hk) hf)) (later_starts h5 h6 hpc hf k (Nat.succ_pos q) (by rw [Nat.sub_succ, hk]; rfl)) (by omega)

end

noncomputable abbrev span (P : Nat → Bool) (l : List Nat) : Nat := (l.takeWhile P).length

theorem span_le (P : Nat → Bool) (l : List Nat) : span P l ≤ l.length := by
  unfold span
  exact (List.takeWhile_sublist P).length_le

theorem span_pos {P : Nat → Bool} {c : Nat} {l : List Nat} (h : P c = true) : span P (c :: l) = span P l + 1 := by simp [span, List.takeWhile_cons, h]
theorem span_neg {P : Nat → Bool} {c : Nat} {l : List Nat} (h : P c = false) : span P (c :: l) = 0 := by simp [span, List.takeWhile_cons, h]
theorem run_span {code : Array Nat} {i : Nat} {P : Nat → Bool} (hA : ∀ c sn, ∃ sn', Sre.accepts code i c sn = .ok (P c, sn')) (x : List Nat) : ∀ (n p found : Nat) (sn : Sre.Seen), p + n = x.length →
    ∃ sn', Sre.run code x.toArray i n p found sn = .ok (found + span P (x.drop p), sn')
  | 0, p, found, sn, h => by
    rw [List.drop_eq_nil_of_le (by omega)]
    exact ⟨sn, rfl⟩
  | n + 1, p, found, sn, h => by
    have hp : p < x.length := by omega
    unfold Sre.run
    obtain ⟨sn1, e1⟩ := hA (x.toArray.getD p 0) sn
    have eg : x.toArray.getD p 0 = x[p] := by simp [hp]
    rw [e1, eg]
    rw [List.drop_eq_getElem_cons hp]
    cases hP : P x[p] with
    | true =>
      obtain ⟨sn2, e2⟩ := run_span hA x n (p + 1) (found + 1) sn1 (by omega)
      refine ⟨sn2, ?_⟩
      show Sre.run code x.toArray i n (p + 1) (found + 1) sn1 = _
      rw [e2, span_pos hP]
      congr 2; omega
    | false =>
      refine ⟨sn1, ?_⟩
      rw [span_neg hP]
      rfl

end Mine
end
section
open PySem PySem.W PyProof.Rows
namespace Mine

noncomputable def sp (c : Nat) : Bool := Unicode.isSpace c
noncomputable def tokP (c : Nat) : Bool := !(c == 44 || c == 59 || c == 61) && !sp c
noncomputable def valP (c : Nat) : Bool := !(sp c) && !(c == 59) && !(c == 44)
noncomputable def bodyP (c : Nat) : Bool := !(c == 34) && !(c == 92)
noncomputable def junkP (c : Nat) : Bool := c == 61 || sp c || c == 59
noncomputable def bareP (c : Nat) : Bool := c == 33 || (35 ≤ c && c ≤ 39) || c == 42 || c == 43 || c == 45 || c == 46 || (48 ≤ c && c ≤ 57) || (65 ≤ c && c ≤ 90) || (94 ≤ c && c ≤ 122) || c == 124 || c == 126

theorem cat12 (c : Nat) : Sre.category 12 c = .ok (sp c) := by
  unfold Sre.category sp
  show Except.map _ (Except.ok (Unicode.isSpace c)) = _
  cases Unicode.isSpace c <;> rfl

theorem charset_tok (c : Nat) : (decide (c < 256) && (codeTok.getD (26 + (1 + c / 32)) 0).testBit (c % 32)) = (c == 44 || c == 59 || c == 61) := by
  by_cases h : c < 256
  · have : ∀ c, c < 256 → (decide (c < 256) && (codeTok.getD (26 + (1 + c / 32)) 0).testBit (c % 32)) = (c == 44 || c == 59 || c == 61) := by decide +kernel
    exact this c h
  · obtain ⟨k, e⟩ := Nat.exists_eq_add_of_le' (Nat.not_lt.mp h)
    rw [decide_eq_false h, e]
    exact (show false = (k + 256 == 44 || k + 256 == 59 || k + 256 == 61) by kernel_rfl)
theorem charset_jtok (c : Nat) : (decide (c < 256) && (codeJTok.getD (11 + (1 + c / 32)) 0).testBit (c % 32)) = bareP c := by
  by_cases h : c < 256
  · have : ∀ c, c < 256 → (decide (c < 256) && (codeJTok.getD (11 + (1 + c / 32)) 0).testBit (c % 32)) = bareP c := by decide +kernel
    exact this c h
  · obtain ⟨k, e⟩ := Nat.exists_eq_add_of_le' (Nat.not_lt.mp h)
    rw [decide_eq_false h, e]
    exact (show false = bareP (k + 256) by kernel_rfl)

noncomputable abbrev Res := Except String (Bool × Sre.Seen)
noncomputable def Ok (r : Res) (b : Bool) : Prop := ∃ s, r = .ok (b, s)
theorem Ok.ok {b : Bool} {s : Sre.Seen} : Ok (.ok (b, s)) b := ⟨s, rfl⟩
theorem Ok.ite {p b x : Bool} {s : Sre.Seen} {k : Res} (h : Ok k b) : Ok (if p = true then .ok (x, s) else k) (if p then x else b) := by
  cases p
  · exact h
  · exact ⟨s, rfl⟩
theorem Ok.cat {c : Nat} {b x : Bool} {s : Sre.Seen} {k : Res} (h : Ok k b) : Ok ((Sre.category 12 c).bind fun q => if q = true then .ok (x, s) else k) (if sp c then x else b) := by
  rw [cat12]
  exact Ok.ite h
theorem Ok.to {r : Res} {a b : Bool} (h : Ok r a) (e : a = b) : Ok r b := e ▸ h
theorem acc_tok_sp (c : Nat) (sn : Sre.Seen) : ∃ sn', Sre.accepts codeTok 11 c sn = .ok (sp c, sn') := by
  have h : Ok (Sre.accepts codeTok 11 c sn) (if sp c then true else false) := Ok.cat Ok.ok
  exact h.to (by cases sp c <;> rfl)
theorem acc_val_sp (c : Nat) (sn : Sre.Seen) : ∃ sn', Sre.accepts codeVal 11 c sn = .ok (sp c, sn') := by
  have h : Ok (Sre.accepts codeVal 11 c sn) (if sp c then true else false) := Ok.cat Ok.ok
  exact h.to (by cases sp c <;> rfl)
theorem acc_val_sp2 (c : Nat) (sn : Sre.Seen) : ∃ sn', Sre.accepts codeVal 23 c sn = .ok (sp c, sn') := by
  have h : Ok (Sre.accepts codeVal 23 c sn) (if sp c then true else false) := Ok.cat Ok.ok
  exact h.to (by cases sp c <;> rfl)
theorem acc_quo_sp (c : Nat) (sn : Sre.Seen) : ∃ sn', Sre.accepts codeQuo 11 c sn = .ok (sp c, sn') := by
  have h : Ok (Sre.accepts codeQuo 11 c sn) (if sp c then true else false) := Ok.cat Ok.ok
  exact h.to (by cases sp c <;> rfl)
theorem acc_quo_sp2 (c : Nat) (sn : Sre.Seen) : ∃ sn', Sre.accepts codeQuo 23 c sn = .ok (sp c, sn') := by
  have h : Ok (Sre.accepts codeQuo 23 c sn) (if sp c then true else false) := Ok.cat Ok.ok
  exact h.to (by cases sp c <;> rfl)
theorem acc_tok (c : Nat) (sn : Sre.Seen) : ∃ sn', Sre.accepts codeTok 23 c sn = .ok (tokP c, sn') := by
  have h : Ok (Sre.accepts codeTok 23 c sn) (if (decide (c < 256) && (codeTok.getD (26 + (1 + c / 32)) 0).testBit (c % 32)) then false else if sp c then false else true) := Ok.ite (Ok.cat Ok.ok)
  exact h.to (by rw [charset_tok]; unfold tokP; cases (c == 44 || c == 59 || c == 61) <;> cases sp c <;> rfl)
theorem acc_val (c : Nat) (sn : Sre.Seen) : ∃ sn', Sre.accepts codeVal 35 c sn = .ok (valP c, sn') := by
  have h : Ok (Sre.accepts codeVal 35 c sn) (if sp c then false else if c == 59 then false else if c == 44 then false else true) := Ok.cat (Ok.ite (Ok.ite Ok.ok))
  exact h.to (by unfold valP; cases sp c <;> cases (c == 59) <;> cases (c == 44) <;> rfl)
theorem acc_quo_body (c : Nat) (sn : Sre.Seen) : ∃ sn', Sre.accepts codeQuo 37 c sn = .ok (bodyP c, sn') := by
  have h : Ok (Sre.accepts codeQuo 37 c sn) (if c == 34 then false else if c == 92 then false else true) := Ok.ite (Ok.ite Ok.ok)
  exact h.to (by unfold bodyP; cases (c == 34) <;> cases (c == 92) <;> rfl)
theorem acc_quo_body2 (c : Nat) (sn : Sre.Seen) : ∃ sn', Sre.accepts codeQuo 57 c sn = .ok (bodyP c, sn') := by
  have h : Ok (Sre.accepts codeQuo 57 c sn) (if c == 34 then false else if c == 92 then false else true) := Ok.ite (Ok.ite Ok.ok)
  exact h.to (by unfold bodyP; cases (c == 34) <;> cases (c == 92) <;> rfl)
theorem acc_twin (c : Nat) (sn : Sre.Seen) : ∃ sn', Sre.accepts codeTwin 11 c sn = .ok (junkP c, sn') := by
  have h : Ok (Sre.accepts codeTwin 11 c sn) (if c == 61 then true else if sp c then true else if c == 59 then true else false) := Ok.ite (Ok.cat (Ok.ite Ok.ok))
  exact h.to (by unfold junkP; cases (c == 61) <;> cases sp c <;> cases (c == 59) <;> rfl)
theorem acc_jtok (c : Nat) (sn : Sre.Seen) : ∃ sn', Sre.accepts codeJTok 9 c sn = .ok (bareP c, sn') := by
  have h : Ok (Sre.accepts codeJTok 9 c sn) (if (decide (c < 256) && (codeJTok.getD (11 + (1 + c / 32)) 0).testBit (c % 32)) then true else false) := Ok.ite Ok.ok
  exact h.to (by rw [charset_jtok]; cases bareP c <;> rfl)
end Mine
end
section
open PySem PySem.W PyProof.Rows
namespace Mine

structure EndsAt (m : RM) (P : RM → Prop) : Prop where
  ex : ∃ b m', To b m m' ∧ b ≤ 1152921504606846976 ∧ m'.outcome.isSome = true ∧ P m'

theorem EndsAt.of {b : Nat} {m m' : RM} {P : RM → Prop} (h : To b m m') (hb : b ≤ 1152921504606846976) (ho : m'.outcome.isSome = true) (hp : P m') : EndsAt m P := ⟨⟨b, m', h, hb, ho, hp⟩⟩
theorem Goes.ends {N : Nat} {m : RM} {P : RM → Prop} (g : Goes N m P) (hN : N ≤ 1152921504606846976) (hP : ∀ m', P m' → m'.outcome.isSome = true) : EndsAt m P := by
  cases g with
  | mk m' t h => exact EndsAt.of t hN (hP m' h) h
theorem Goes.miss {N : Nat} {m : RM} (g : Goes N m Miss) (hN : N ≤ 1152921504606846976) : EndsAt m Miss := g.ends hN fun m' h => by rw [show m'.outcome = _ from h]; rfl
noncomputable def Hit1 (s e a b : Nat) (m : RM) : Prop := m.outcome = some .matched ∧ m.start = s ∧ m.handed = e ∧ m.lastmark = 1 ∧ m.marks = #[some a, some b]
noncomputable def Hit0 (s e : Nat) (m : RM) : Prop := m.outcome = some .matched ∧ m.start = s ∧ m.handed = e

section
variable {code : Array Nat} {x : List Nat} {ls : Nat} {wh mu : Bool} {s pc pos hd : Nat} {om : Bool} {mk : Array (Option Nat)} {lm li : Int} {lp : Array Sre.Loop} {inn : Option Nat} {f : Sre.Frame} {fr : List Sre.Frame} {wt : Nat} {ans : Option Bool}

theorem to_mark0 (hpc : pc < code.size) (hw : code.getD pc 0 = 17) (hk : code.getD (pc + 1) 0 = 0) :
    To 1 (st code x ls wh mu s pc pos hd om mk (-1) li lp inn fr wt none) (st code x ls wh mu s (pc + 2) pos hd om (mk.setIfInBounds 0 (some pos)) 0 li lp inn fr wt none) :=
  to_mark (m := st code x ls wh mu s pc pos hd om mk (-1) li lp inn fr wt none) ⟨rfl, rfl, hpc⟩ hw hk
theorem to_mark1 (hpc : pc < code.size) (hw : code.getD pc 0 = 17) (hk : code.getD (pc + 1) 0 = 1) :
    To 1 (st code x ls wh mu s pc pos hd om mk 0 li lp inn fr wt none) (st code x ls wh mu s (pc + 2) pos hd om (mk.setIfInBounds 1 (some pos)) 1 1 lp inn fr wt none) :=
  to_mark (m := st code x ls wh mu s pc pos hd om mk 0 li lp inn fr wt none) ⟨rfl, rfl, hpc⟩ hw hk
theorem marks_two (hm : mk.size = 2) (a b : Option Nat) : (mk.setIfInBounds 0 a).setIfInBounds 1 b = #[a, b] := by
  obtain ⟨l⟩ := mk
  match l, hm with
  | [p, q], _ => rfl

noncomputable abbrev gb (p q : Nat) (o : Bool) (cnt : Int) (kl ki : Int) : Sre.Frame := { wait := .giveBack, pc := p, pos := q, outermost := o, count := cnt, kept := { lastmark := kl, lastindex := ki } }
noncomputable abbrev ns (p q : Nat) (o : Bool) : Sre.Frame := { wait := .nextStart, pc := p, pos := q, outermost := o }

theorem to_run {P : Nat → Bool} {k least : Nat} (hA : ∀ c sn, ∃ sn', Sre.accepts code (pc + 4) c sn = .ok (P c, sn')) (hpc : pc < code.size) (hw : code.getD pc 0 = 24) (h1 : code.getD (pc + 1) 0 = k) (h2 : code.getD (pc + 2) 0 = least) (h3 : code.getD (pc + 3) 0 = 4294967295)
    (hx : x.length ≤ lim) (hp : pos ≤ x.length) (hj : least ≤ span P (x.drop pos)) (hwt : wt ≤ 16777000) :
    To 1 (st code x ls wh mu s pc pos hd om mk lm li lp none fr wt none)
      (st code x ls wh mu s (pc + 1 + k) (pos + span P (x.drop pos)) (pos + span P (x.drop pos)) om mk lm li lp none (gb pc (pos + span P (x.drop pos)) om (span P (x.drop pos)) lm li :: fr) (wt + 1) none) := by
  have hle := span_le P (x.drop pos)
  rw [List.length_drop] at hle
  exact to_rep1 (m := st code x ls wh mu s pc pos hd om mk lm li lp none fr wt none) ⟨rfl, rfl, hpc⟩ hw h2 h3 h1 (j := span P (x.drop pos)) (fun sn => by
    have hm : min 4294967295 (x.length - pos) = x.length - pos := by simp only [lim] at hx; omega
    obtain ⟨sn', e⟩ := run_span hA x (x.length - pos) pos 0 sn (by omega)
    exact ⟨sn', by
      show Sre.run code x.toArray (pc + 4) (min 4294967295 (x.length - pos)) pos 0 sn = _
      rw [hm, e, Nat.zero_add]⟩) hp (by show least ≤ x.length - pos; omega) hj (by show wt + 1 + 0 ≤ 16777216; omega)
theorem to_run_no {P : Nat → Bool} {least : Nat} (hA : ∀ c sn, ∃ sn', Sre.accepts code (pc + 4) c sn = .ok (P c, sn')) (hpc : pc < code.size) (hw : code.getD pc 0 = 24) (h2 : code.getD (pc + 2) 0 = least) (h3 : code.getD (pc + 3) 0 = 4294967295)
    (hx : x.length ≤ lim) (hp : pos ≤ x.length) (hj : span P (x.drop pos) < least) :
    ∃ p, To 1 (st code x ls wh mu s pc pos hd om mk lm li lp none fr wt none) (st code x ls wh mu s pc p hd om mk lm li lp none fr wt (some false)) :=
  to_rep1_no (m := st code x ls wh mu s pc pos hd om mk lm li lp none fr wt none) ⟨rfl, rfl, hpc⟩ hw h2 h3 (j := span P (x.drop pos)) (fun sn => by
    have hm : min 4294967295 (x.length - pos) = x.length - pos := by simp only [lim] at hx; omega
    obtain ⟨sn', e⟩ := run_span hA x (x.length - pos) pos 0 sn (by omega)
    exact ⟨sn', by
      show Sre.run code x.toArray (pc + 4) (min 4294967295 (x.length - pos)) pos 0 sn = _
      rw [hm, e, Nat.zero_add]⟩) hp hj

inductive NoM (code : Array Nat) (x : List Nat) (ls : Nat) (wh mu : Bool) (s : Nat) (lp : Array Sre.Loop) (inn : Option Nat) (fr : List Sre.Frame) (wt : Nat) : RM → Prop where
  | mk (pc pos hd : Nat) (om : Bool) (mk : Array (Option Nat)) (lm li : Int) (hm : mk.size = 2) : NoM code x ls wh mu s lp inn fr wt (st code x ls wh mu s pc pos hd om mk lm li lp inn fr wt (some false))
theorem unwind {p k base c0 : Nat} {o : Bool} {kl ki : Int} {fr : List Sre.Frame} (h2 : code.getD (p + 2) 0 = 0) (h1 : code.getD (p + 1) 0 = k) (hwt : wt ≤ 16777000)
    (hfail : ∀ q mk hd, q < c0 → mk.size = 2 → Goes 3 (st code x ls wh mu s (p + 1 + k) (base + q) hd o mk kl ki lp inn (gb p (base + q) o q kl ki :: fr) (wt + 1) none) (NoM code x ls wh mu s lp inn (gb p (base + q) o q kl ki :: fr) (wt + 1))) :
    ∀ (c : Nat) {m : RM}, c ≤ c0 → NoM code x ls wh mu s lp inn (gb p (base + c) o c kl ki :: fr) (wt + 1) m → Goes (4 * c + 1) m (NoM code x ls wh mu s lp inn fr wt)
  | 0, m, hc, hm => by
    cases hm with
    | mk pc pos hd om mk lm li hm => exact ⟨_, giveBack_no (by rw [h2]; decide), .mk _ _ _ _ _ _ _ hm⟩
  | c + 1, m, hc, hm => by
    cases hm with
    | mk pc pos hd om mk lm li hm =>
    have g := giveBack_more (code := code) (x := x) (ls := ls) (wh := wh) (mu := mu) (s := s) (pc := pc) (pos := pos) (hd := hd) (om := om) (mk := mk) (lm := lm) (li := li) (lp := lp) (inn := inn) (fr := fr) (wt := wt + 1) (cnt := ((c + 1 : Nat) : Int)) (p := p) (q := base + (c + 1)) (k := k) (o := o) (kl := kl) (ki := ki) (by rw [h2]; show ¬ (((c + 1 : Nat) : Int) - 1 < 0); omega) h1 (by omega) (Nat.le_add_left _ _)
    rw [show ((c + 1 : Nat) : Int) - 1 = (c : Int) by omega] at g
    exact Goes.pre (k := 4 * c + 4) g ((hfail c mk (base + c) hc hm).bind (fun m' hm' => unwind h2 h1 hwt hfail c (Nat.le_of_succ_le hc) hm') (by omega)) (by omega)
end

theorem span_take {P : Nat → Bool} : ∀ (l : List Nat) (q : Nat), q < span P l → ∃ c, l[q]? = some c ∧ P c = true
  | [], q, h => by simp [span] at h
  | c :: l, q, h => by
    cases hP : P c with
    | false => rw [span_neg hP] at h; omega
    | true =>
      rw [span_pos hP] at h
      cases q with
      | zero => exact ⟨c, rfl, hP⟩
      | succ q => obtain ⟨d, h1, h2⟩ := span_take (P := P) l q (by omega); exact ⟨d, by simpa using h1, h2⟩
theorem span_first {P : Nat → Bool} {x : List Nat} {p c : Nat} (h : x[p]? = some c) (hP : P c = false) : span P (x.drop p) = 0 := by
  have hp : p < x.length := by
    rcases Nat.lt_or_ge p x.length with q | q
    · exact q
    · rw [List.getElem?_eq_none q] at h; cases h
  rw [List.drop_eq_getElem_cons hp]
  rw [List.getElem?_eq_getElem hp] at h
  cases h
  exact span_neg hP

end Mine
end
section
open PySem PySem.W PyProof.Rows
namespace Mine

theorem mk2_size : (Array.replicate (2 * 1) (none : Option Nat)).size = 2 := rfl
theorem noFirst_tok (m : RM) (h : m.code = codeTok) : m.hasFirstSet = false := by unfold Sre.M.hasFirstSet; rw [h]; rfl
theorem noFirst_val (m : RM) (h : m.code = codeVal) : m.hasFirstSet = false := by unfold Sre.M.hasFirstSet; rw [h]; rfl
theorem noFirst_quo (m : RM) (h : m.code = codeQuo) : m.hasFirstSet = false := by unfold Sre.M.hasFirstSet; rw [h]; rfl
theorem noFirst_twin (m : RM) (h : m.code = codeTwin) : m.hasFirstSet = false := by unfold Sre.M.hasFirstSet; rw [h]; rfl

theorem search_start (code : Array Nat) (x : List Nat) (g s least : Nat) (mu : Bool) (M : RM) {D : RM} {sn : Sre.Seen} (e : Sre.forSearch code x.toArray g s x.length mu = if (decide (s > x.length) || decide (x.length - s < least)) = true then D else M.sn sn) (hl : s ≤ x.length) (hx : least ≤ x.length - s) :
    To 0 (Sre.forSearch code x.toArray g s x.length mu) M := fun sn' => ⟨0, Nat.le_refl _, sn', by
  rw [e, decide_eq_false (Nat.not_lt.mpr hl), decide_eq_false (Nat.not_lt.mpr hx)]; rfl⟩
theorem miss_now {m : RM} (h : ∃ D : RM, m = D.say false ∧ D.outcome = none ∧ D.frames = []) : EndsAt m Miss := by
  obtain ⟨D, e, ho, hf⟩ := h
  rw [e]
  exact EndsAt.of (To.finish (m := D.say false) (yes := false) ho rfl hf) (by decide) rfl rfl
theorem search_short (code : Array Nat) (x : List Nat) (g s least : Nat) (mu : Bool) {D M : RM} (e : Sre.forSearch code x.toArray g s x.length mu = if (decide (s > x.length) || decide (x.length - s < least)) = true then D.say false else M) (ho : D.outcome = none) (hf : D.frames = []) (hx : x.length - s < least) :
    EndsAt (Sre.forSearch code x.toArray g s x.length mu) Miss := miss_now ⟨D, by rw [e, decide_eq_true hx, Bool.or_true]; rfl, ho, hf⟩

theorem tok_hit {x : List Nat} (hx : x.length ≤ lim) {i j : Nat} (hi : span sp x = i) (hj : span tokP (x.drop i) = j) (h0 : 0 < j) :
    EndsAt (Sre.forSearch codeTok x.toArray 1 0 x.length false) (Hit1 0 (i + j) i (i + j)) := by
  have li := span_le sp x
  have lj := span_le tokP (x.drop i)
  rw [List.length_drop] at lj
  have s0 := search_start codeTok x 1 0 1 false (st codeTok x x.length false false 0 5 0 0 true (Array.replicate (2 * 1) none) (-1) (-1) #[] none [ns 5 0 true] 1 none) rfl (Nat.zero_le _) (by omega)
  have s1 := to_at0 (m := st codeTok x x.length false false 0 5 0 0 true (Array.replicate (2 * 1) none) (-1) (-1) #[] none [ns 5 0 true] 1 none) ⟨rfl, rfl, show 5 < codeTok.size by decide⟩ rfl rfl rfl
  have s2 := to_run (code := codeTok) (x := x) (ls := x.length) (wh := false) (mu := false) (s := 0) (pc := 7) (pos := 0) (hd := 0) (om := true) (mk := Array.replicate (2 * 1) none) (lm := -1) (li := -1) (lp := #[]) (fr := [ns 5 0 true]) (wt := 1) (k := 9) (least := 0) acc_tok_sp (by decide) rfl rfl rfl rfl hx (Nat.zero_le _) (Nat.zero_le _) (by omega)
  rw [List.drop_zero, hi, Nat.zero_add] at s2
  have s3 := to_mark0 (code := codeTok) (x := x) (ls := x.length) (wh := false) (mu := false) (s := 0) (pc := 17) (pos := i) (hd := i) (om := true) (mk := Array.replicate (2 * 1) none) (li := -1) (lp := #[]) (inn := none) (fr := [gb 7 i true i (-1) (-1), ns 5 0 true]) (wt := 2) (by decide) rfl rfl
  have s4 := to_run (code := codeTok) (x := x) (ls := x.length) (wh := false) (mu := false) (s := 0) (pc := 19) (pos := i) (hd := i) (om := true) (mk := (Array.replicate (2 * 1) none).setIfInBounds 0 (some i)) (lm := 0) (li := -1) (lp := #[]) (fr := [gb 7 i true i (-1) (-1), ns 5 0 true]) (wt := 2) (k := 19) (least := 1) acc_tok (by decide) rfl rfl rfl rfl hx (by omega) (by omega) (by omega)
  rw [hj] at s4
  have s5 := to_mark1 (code := codeTok) (x := x) (ls := x.length) (wh := false) (mu := false) (s := 0) (pc := 39) (pos := i + j) (hd := i + j) (om := true) (mk := (Array.replicate (2 * 1) none).setIfInBounds 0 (some i)) (li := -1) (lp := #[]) (inn := none) (fr := [gb 19 (i + j) true j 0 (-1), gb 7 i true i (-1) (-1), ns 5 0 true]) (wt := 3) (by decide) rfl rfl
  rw [marks_two mk2_size] at s5
  have s6 := to_success (m := st codeTok x x.length false false 0 41 (i + j) (i + j) true #[some i, some (i + j)] 1 1 #[] none [gb 19 (i + j) true j 0 (-1), gb 7 i true i (-1) (-1), ns 5 0 true] 3 none) ⟨rfl, rfl, show 41 < codeTok.size by decide⟩ rfl rfl
  have s7 := pop_yes (code := codeTok) (x := x) (ls := x.length) (wh := false) (mu := false) (s := 0) (pc := 41) (pos := i + j) (hd := i + j) (om := true) (mk := #[some i, some (i + j)]) (lm := 1) (li := 1) (lp := #[]) (inn := none) (f := gb 19 (i + j) true j 0 (-1)) (fr := [gb 7 i true i (-1) (-1), ns 5 0 true]) (wt := 3) (.inl rfl)
  have s8 := pop_yes (code := codeTok) (x := x) (ls := x.length) (wh := false) (mu := false) (s := 0) (pc := 19) (pos := i + j) (hd := i + j) (om := true) (mk := #[some i, some (i + j)]) (lm := 1) (li := 1) (lp := #[]) (inn := none) (f := gb 7 i true i (-1) (-1)) (fr := [ns 5 0 true]) (wt := 2) (.inl rfl)
  have s9 := pop_yes (code := codeTok) (x := x) (ls := x.length) (wh := false) (mu := false) (s := 0) (pc := 7) (pos := i) (hd := i + j) (om := true) (mk := #[some i, some (i + j)]) (lm := 1) (li := 1) (lp := #[]) (inn := none) (f := ns 5 0 true) (fr := []) (wt := 1) (.inr rfl)
  have s10 := To.finish (m := st codeTok x x.length false false 0 5 0 (i + j) true #[some i, some (i + j)] 1 1 #[] none [] 0 (some true)) rfl rfl rfl
  exact EndsAt.of ((((((((((s0.trans s1).trans s2).trans s3).trans s4).trans s5).trans s6).trans s7).trans s8).trans s9).trans s10) (by omega) rfl ⟨rfl, rfl, rfl, rfl, rfl⟩

theorem sp_tok {c : Nat} (h : sp c = true) : tokP c = false := by simp [tokP, h]

theorem tok_miss {x : List Nat} (hx : x.length ≤ lim) (hn : x ≠ []) (h0 : span tokP (x.drop (span sp x)) = 0) :
    EndsAt (Sre.forSearch codeTok x.toArray 1 0 x.length false) Miss := by
  have li := span_le sp x
  have hn' : 1 ≤ x.length := List.length_pos_iff.mpr hn
  have s2 := to_run (code := codeTok) (x := x) (ls := x.length) (wh := false) (mu := false) (s := 0) (pc := 7) (pos := 0) (hd := 0) (om := true) (mk := Array.replicate (2 * 1) none) (lm := -1) (li := -1) (lp := #[]) (fr := [ns 5 0 true]) (wt := 1) (k := 9) (least := 0) acc_tok_sp (by decide) rfl rfl rfl rfl hx (Nat.zero_le _) (Nat.zero_le _) (by decide)
  rw [List.drop_zero] at s2
  -- at each place no word begins
  have fail : ∀ (q : Nat) (mk : Array (Option Nat)) (hd : Nat) (fr : List Sre.Frame) (wt : Nat), q ≤ span sp x → mk.size = 2 →
      Goes 3 (st codeTok x x.length false false 0 17 q hd true mk (-1) (-1) #[] none fr wt none) (NoM codeTok x x.length false false 0 #[] none fr wt) := by
    intro q mk hd fr wt hq hm
    have hz : span tokP (x.drop q) < 1 := by
      rcases Nat.lt_or_eq_of_le hq with h | h
      · refine Classical.byContradiction fun ng0 => ?_
        obtain ⟨c, h1, h2⟩ := span_take x q h
        refine ng0 ?_
        rw [span_first h1 (sp_tok h2)]; exact Nat.zero_lt_one
      · rw [h, h0]; exact Nat.zero_lt_one
    obtain ⟨p, t2⟩ := to_run_no (code := codeTok) (x := x) (ls := x.length) (wh := false) (mu := false) (s := 0) (pc := 19) (pos := q) (hd := hd) (om := true) (mk := mk.setIfInBounds 0 (some q)) (lm := 0) (li := -1) (lp := #[]) (fr := fr) (wt := wt) (least := 1) acc_tok (by decide) rfl rfl rfl hx (Nat.le_trans hq li) hz
    exact Goes.to ((to_mark0 (by decide) rfl rfl).trans t2) (.mk _ _ _ _ _ _ _ (by rw [Array.size_setIfInBounds]; exact hm)) (by decide)
  refine Goes.miss (N := 6 * x.length + 20) (Goes.pre (k := 6 * x.length + 19) (search_start codeTok x 1 0 1 false (st codeTok x x.length false false 0 5 0 0 true (Array.replicate (2 * 1) none) (-1) (-1) #[] none [ns 5 0 true] 1 none) rfl (Nat.zero_le _) hn') ?_ (by omega)) (by simp only [lim] at hx; omega)
  refine Goes.pre (k := 6 * x.length + 17) ((to_at0 ⟨rfl, rfl, show 5 < codeTok.size by decide⟩ rfl rfl rfl).trans s2) ?_ (by omega)
  refine (fail (0 + span sp x) _ _ _ _ (by omega) mk2_size).bind (k := 6 * x.length + 14) (fun m1 h1 => ?_) (by omega)
  refine (unwind (code := codeTok) (x := x) (ls := x.length) (wh := false) (mu := false) (s := 0) (lp := #[]) (inn := none) (wt := 1) (p := 7) (k := 9) (base := 0) (c0 := span sp x) (o := true) (kl := -1) (ki := -1) (fr := [ns 5 0 true]) rfl rfl (by decide)
    (fun q mk hd hq hm => fail (0 + q) mk hd _ _ (by omega) hm) (span sp x) (Nat.le_refl _) h1).bind (k := 2 * x.length + 4) (fun m2 h2 => ?_) (by omega)
  cases h2
  exact Goes.pre (k := 2 * (x.length - 1) + 3) (next_more hn' noFirst_tok) (later_starts rfl rfl (by decide) noFirst_tok (x.length - 1) Nat.zero_lt_one rfl) (by omega)

end Mine
end
section
open PySem PySem.W PyProof.Rows
namespace Mine

structure Pre (code : Array Nat) : Prop where
  size : 29 < code.size
  a5 : code.getD 5 0 = 6
  a6 : code.getD 6 0 = 0
  a7 : code.getD 7 0 = 24
  a8 : code.getD 8 0 = 9
  a9 : code.getD 9 0 = 0
  a10 : code.getD 10 0 = 4294967295
  a17 : code.getD 17 0 = 16
  a18 : code.getD 18 0 = 61
  a19 : code.getD 19 0 = 24
  a20 : code.getD 20 0 = 9
  a21 : code.getD 21 0 = 0
  a22 : code.getD 22 0 = 4294967295
  s1 : ∀ c sn, ∃ sn', Sre.accepts code 11 c sn = .ok (sp c, sn')
  s2 : ∀ c sn, ∃ sn', Sre.accepts code 23 c sn = .ok (sp c, sn')
  nf : ∀ m : RM, m.code = code → m.hasFirstSet = false

theorem Pre.lt {code : Array Nat} (P : Pre code) {n : Nat} (h : n < 29) : n < code.size := Nat.lt_trans h P.size
theorem pre_val : Pre codeVal := ⟨by decide, rfl, rfl, rfl, rfl, rfl, rfl, rfl, rfl, rfl, rfl, rfl, rfl, acc_val_sp, acc_val_sp2, noFirst_val⟩
theorem pre_quo : Pre codeQuo := ⟨by decide, rfl, rfl, rfl, rfl, rfl, rfl, rfl, rfl, rfl, rfl, rfl, rfl, acc_quo_sp, acc_quo_sp2, noFirst_quo⟩

section
variable {code : Array Nat} {x : List Nat} {ls : Nat} {i i2 : Nat}

theorem getD_some {x : List Nat} {p c : Nat} (h : x[p]? = some c) : x.toArray.getD p 0 = c := by simp [h]
theorem lt_some {x : List Nat} {p c : Nat} (h : x[p]? = some c) : p < x.length := by
  rcases Nat.lt_or_ge p x.length with q | q
  · exact q
  · rw [List.getElem?_eq_none q] at h; cases h
theorem getD_ne {x : List Nat} {p c : Nat} (h : x[p]? ≠ some c) : p < x.length → x.toArray.getD p 0 ≠ c := fun hp e => by
  apply h
  have : x.toArray.getD p 0 = x[p] := by simp [hp]
  rw [this] at e
  rw [List.getElem?_eq_getElem hp, e]

theorem pre_hit (P : Pre code) (hx : x.length ≤ lim) (hi : span sp x = i) (h61 : x[i]? = some 61) (hi2 : span sp (x.drop (i + 1)) = i2) :
    To 4 (st code x ls false false 0 5 0 0 true (Array.replicate (2 * 1) none) (-1) (-1) #[] none [ns 5 0 true] 1 none)
      (st code x ls false false 0 29 (i + 1 + i2) (i + 1 + i2) true (Array.replicate (2 * 1) none) (-1) (-1) #[] none [gb 19 (i + 1 + i2) true i2 (-1) (-1), gb 7 i true i (-1) (-1), ns 5 0 true] 3 none) := by
  have hil := lt_some h61
  have s1 := to_at0 (m := st code x ls false false 0 5 0 0 true (Array.replicate (2 * 1) none) (-1) (-1) #[] none [ns 5 0 true] 1 none) ⟨rfl, rfl, show 5 < code.size from by have := P.size; omega⟩ P.a5 P.a6 rfl
  have s2 := to_run (code := code) (x := x) (ls := ls) (wh := false) (mu := false) (s := 0) (pc := 7) (pos := 0) (hd := 0) (om := true) (mk := Array.replicate (2 * 1) none) (lm := -1) (li := -1) (lp := #[]) (fr := [ns 5 0 true]) (wt := 1) (k := 9) (least := 0) P.s1 (by have := P.size; omega) P.a7 P.a8 P.a9 P.a10 hx (Nat.zero_le _) (Nat.zero_le _) (by omega)
  rw [List.drop_zero, hi, Nat.zero_add] at s2
  have s3 := to_lit (m := st code x ls false false 0 17 i i true (Array.replicate (2 * 1) none) (-1) (-1) #[] none [gb 7 i true i (-1) (-1), ns 5 0 true] 2 none) ⟨rfl, rfl, show 17 < code.size from by have := P.size; omega⟩ P.a17 P.a18 hil (getD_some h61)
  have s4 := to_run (code := code) (x := x) (ls := ls) (wh := false) (mu := false) (s := 0) (pc := 19) (pos := i + 1) (hd := i) (om := true) (mk := Array.replicate (2 * 1) none) (lm := -1) (li := -1) (lp := #[]) (fr := [gb 7 i true i (-1) (-1), ns 5 0 true]) (wt := 2) (k := 9) (least := 0) P.s2 (by have := P.size; omega) P.a19 P.a20 P.a21 P.a22 hx (by omega) (Nat.zero_le _) (by omega)
  rw [hi2] at s4
  exact ((s1.trans s2).trans s3).trans s4

theorem sp_no {q : Nat} {c : Nat} (h1 : x[q]? = some c) (h2 : sp c = true) {d : Nat} (hd : sp d = false) : x[q]? ≠ some d := fun e => by
  rw [h1] at e
  cases e
  rw [hd] at h2; cases h2
theorem pre_end (P : Pre code) (hls : 0 < ls) (hls2 : ls ≤ x.length) (hi : span sp x = i) {m : RM} (hm : NoM code x ls false false 0 #[] none [gb 7 i true i (-1) (-1), ns 5 0 true] 2 m) : Goes (6 * x.length + 5) m Miss := by
  have hil := span_le sp x
  have hm : NoM code x ls false false 0 #[] none (gb 7 (0 + i) true i (-1) (-1) :: [ns 5 0 true]) (1 + 1) m := (Nat.zero_add i).symm ▸ hm
  refine (unwind (code := code) (x := x) (ls := ls) (wh := false) (mu := false) (s := 0) (lp := #[]) (inn := none) (wt := 1) (p := 7) (k := 9) (base := 0) (c0 := i) (o := true) (kl := -1) (ki := -1) (fr := [ns 5 0 true]) P.a9 P.a8 (by decide)
    (fun q mk hd hq hm => by
      refine Classical.byContradiction fun ng0 => ?_
      obtain ⟨c, h1, h2⟩ := span_take (P := sp) x q (hi ▸ hq)
      refine ng0 ?_
      exact Goes.to (to_lit_no (m := st code x ls false false 0 17 (0 + q) hd true mk (-1) (-1) #[] none (gb 7 (0 + q) true q (-1) (-1) :: [ns 5 0 true]) 2 none) ⟨rfl, rfl, P.lt (show 17 < 29 by decide)⟩ P.a17 P.a18 (getD_ne (sp_no ((Nat.zero_add q).symm ▸ h1) h2 (by decide +kernel)))) (.mk _ _ _ _ _ _ _ hm) (by decide)) i (Nat.le_refl _) hm).bind (k := 2 * x.length + 4) (fun m2 h2 => ?_) (by omega)
  cases h2
  exact Goes.pre (k := 2 * (ls - 1) + 3) (next_more hls P.nf) (later_starts P.a5 P.a6 (Nat.lt_trans (by decide) P.size) P.nf (ls - 1) Nat.zero_lt_one rfl) (by omega)

theorem pre_miss1 (P : Pre code) (hx : x.length ≤ lim) (hls : 0 < ls) (hls2 : ls ≤ x.length) (hi : span sp x = i) (h61 : x[i]? ≠ some 61) :
    EndsAt (st code x ls false false 0 5 0 0 true (Array.replicate (2 * 1) none) (-1) (-1) #[] none [ns 5 0 true] 1 none) Miss := by
  have s2 := to_run (code := code) (x := x) (ls := ls) (wh := false) (mu := false) (s := 0) (pc := 7) (pos := 0) (hd := 0) (om := true) (mk := Array.replicate (2 * 1) none) (lm := -1) (li := -1) (lp := #[]) (fr := [ns 5 0 true]) (wt := 1) (k := 9) (least := 0) P.s1 (Nat.lt_trans (by decide) P.size) P.a7 P.a8 P.a9 P.a10 hx (Nat.zero_le _) (Nat.zero_le _) (by decide)
  rw [List.drop_zero, hi, Nat.zero_add] at s2
  exact Goes.miss (N := 6 * x.length + 8) (Goes.pre (k := 6 * x.length + 5) (((to_at0 ⟨rfl, rfl, P.lt (show 5 < 29 by decide)⟩ P.a5 P.a6 rfl).trans s2).trans (to_lit_no ⟨rfl, rfl, P.lt (show 17 < 29 by decide)⟩ P.a17 P.a18 (getD_ne h61))) (pre_end P hls hls2 hi (.mk _ _ _ _ _ _ _ mk2_size)) (by omega)) (by simp only [lim] at hx; omega)

theorem pre_miss2 (P : Pre code) (hls : 0 < ls) (hls2 : ls ≤ x.length) (hi : span sp x = i) (hil : i < x.length) (hi2 : span sp (x.drop (i + 1)) = i2) (h29 : code.getD 29 0 = 16) (h30 : code.getD 30 0 = 34) {m : RM}
    (hm : NoM code x ls false false 0 #[] none [gb 19 (i + 1 + i2) true i2 (-1) (-1), gb 7 i true i (-1) (-1), ns 5 0 true] 3 m) : Goes (10 * x.length + 10) m Miss := by
  have l2 := span_le sp (x.drop (i + 1))
  rw [List.length_drop] at l2
  exact (unwind (code := code) (x := x) (ls := ls) (wh := false) (mu := false) (s := 0) (lp := #[]) (inn := none) (wt := 2) (p := 19) (k := 9) (base := i + 1) (c0 := i2) (o := true) (kl := -1) (ki := -1) (fr := [gb 7 i true i (-1) (-1), ns 5 0 true]) P.a21 P.a20 (by decide)
    (fun q mk hd hq hm => by
      refine Classical.byContradiction fun ng0 => ?_
      obtain ⟨c, h1, h2⟩ := span_take (P := sp) (x.drop (i + 1)) q (hi2 ▸ hq)
      rw [List.getElem?_drop] at h1
      refine ng0 ?_
      exact Goes.to (to_lit_no (m := st code x ls false false 0 29 (i + 1 + q) hd true mk (-1) (-1) #[] none (gb 19 (i + 1 + q) true q (-1) (-1) :: [gb 7 i true i (-1) (-1), ns 5 0 true]) 3 none) ⟨rfl, rfl, P.size⟩ h29 h30 (getD_ne (sp_no h1 h2 (by decide +kernel)))) (.mk _ _ _ _ _ _ _ hm) (by decide)) i2 (Nat.le_refl _) hm).bind (fun m2 h2 => pre_end P hls hls2 hi h2) (by omega)
end

theorem val_hit {x : List Nat} (hx : x.length ≤ lim) {i i2 j : Nat} (hi : span sp x = i) (h61 : x[i]? = some 61) (hi2 : span sp (x.drop (i + 1)) = i2) (hj : span valP (x.drop (i + 1 + i2)) = j) :
    EndsAt (Sre.forSearch codeVal x.toArray 1 0 x.length false) (Hit1 0 (i + 1 + i2 + j) (i + 1 + i2) (i + 1 + i2 + j)) := by
  have hil := lt_some h61
  have l2 := span_le sp (x.drop (i + 1))
  rw [List.length_drop] at l2
  have s0 := search_start codeVal x 1 0 1 false (st codeVal x x.length false false 0 5 0 0 true (Array.replicate (2 * 1) none) (-1) (-1) #[] none [ns 5 0 true] 1 none) rfl (Nat.zero_le _) (by omega)
  have s1 := pre_hit (ls := x.length) pre_val hx hi h61 hi2
  have s3 := to_mark0 (code := codeVal) (x := x) (ls := x.length) (wh := false) (mu := false) (s := 0) (pc := 29) (pos := i + 1 + i2) (hd := i + 1 + i2) (om := true) (mk := Array.replicate (2 * 1) none) (li := -1) (lp := #[]) (inn := none) (fr := [gb 19 (i + 1 + i2) true i2 (-1) (-1), gb 7 i true i (-1) (-1), ns 5 0 true]) (wt := 3) (by decide) rfl rfl
  have s4 := to_run (code := codeVal) (x := x) (ls := x.length) (wh := false) (mu := false) (s := 0) (pc := 31) (pos := i + 1 + i2) (hd := i + 1 + i2) (om := true) (mk := (Array.replicate (2 * 1) none).setIfInBounds 0 (some (i + 1 + i2))) (lm := 0) (li := -1) (lp := #[]) (fr := [gb 19 (i + 1 + i2) true i2 (-1) (-1), gb 7 i true i (-1) (-1), ns 5 0 true]) (wt := 3) (k := 14) (least := 0) acc_val (by decide) rfl rfl rfl rfl hx (by omega) (by omega) (by omega)
  rw [hj] at s4
  have s5 := to_mark1 (code := codeVal) (x := x) (ls := x.length) (wh := false) (mu := false) (s := 0) (pc := 46) (pos := i + 1 + i2 + j) (hd := i + 1 + i2 + j) (om := true) (mk := (Array.replicate (2 * 1) none).setIfInBounds 0 (some (i + 1 + i2))) (li := -1) (lp := #[]) (inn := none) (fr := [gb 31 (i + 1 + i2 + j) true j 0 (-1), gb 19 (i + 1 + i2) true i2 (-1) (-1), gb 7 i true i (-1) (-1), ns 5 0 true]) (wt := 4) (by decide) rfl rfl
  rw [marks_two mk2_size] at s5
  have s6 := to_success (m := st codeVal x x.length false false 0 48 (i + 1 + i2 + j) (i + 1 + i2 + j) true #[some (i + 1 + i2), some (i + 1 + i2 + j)] 1 1 #[] none [gb 31 (i + 1 + i2 + j) true j 0 (-1), gb 19 (i + 1 + i2) true i2 (-1) (-1), gb 7 i true i (-1) (-1), ns 5 0 true] 4 none) ⟨rfl, rfl, show 48 < codeVal.size by decide⟩ rfl rfl
  have s7 := pop_yes (code := codeVal) (x := x) (ls := x.length) (wh := false) (mu := false) (s := 0) (pc := 48) (pos := i + 1 + i2 + j) (hd := i + 1 + i2 + j) (om := true) (mk := #[some (i + 1 + i2), some (i + 1 + i2 + j)]) (lm := 1) (li := 1) (lp := #[]) (inn := none) (f := gb 31 (i + 1 + i2 + j) true j 0 (-1)) (fr := [gb 19 (i + 1 + i2) true i2 (-1) (-1), gb 7 i true i (-1) (-1), ns 5 0 true]) (wt := 4) (.inl rfl)
  have s8 := pop_yes (code := codeVal) (x := x) (ls := x.length) (wh := false) (mu := false) (s := 0) (pc := 31) (pos := i + 1 + i2 + j) (hd := i + 1 + i2 + j) (om := true) (mk := #[some (i + 1 + i2), some (i + 1 + i2 + j)]) (lm := 1) (li := 1) (lp := #[]) (inn := none) (f := gb 19 (i + 1 + i2) true i2 (-1) (-1)) (fr := [gb 7 i true i (-1) (-1), ns 5 0 true]) (wt := 3) (.inl rfl)
  have s8' := pop_yes (code := codeVal) (x := x) (ls := x.length) (wh := false) (mu := false) (s := 0) (pc := 19) (pos := i + 1 + i2) (hd := i + 1 + i2 + j) (om := true) (mk := #[some (i + 1 + i2), some (i + 1 + i2 + j)]) (lm := 1) (li := 1) (lp := #[]) (inn := none) (f := gb 7 i true i (-1) (-1)) (fr := [ns 5 0 true]) (wt := 2) (.inl rfl)
  have s9 := pop_yes (code := codeVal) (x := x) (ls := x.length) (wh := false) (mu := false) (s := 0) (pc := 7) (pos := i) (hd := i + 1 + i2 + j) (om := true) (mk := #[some (i + 1 + i2), some (i + 1 + i2 + j)]) (lm := 1) (li := 1) (lp := #[]) (inn := none) (f := ns 5 0 true) (fr := []) (wt := 1) (.inr rfl)
  have s10 := To.finish (m := st codeVal x x.length false false 0 5 0 (i + 1 + i2 + j) true #[some (i + 1 + i2), some (i + 1 + i2 + j)] 1 1 #[] none [] 0 (some true)) rfl rfl rfl
  exact EndsAt.of ((((((((((s0.trans s1).trans s3).trans s4).trans s5).trans s6).trans s7).trans s8).trans s8').trans s9).trans s10) (by omega) rfl ⟨rfl, rfl, rfl, rfl, rfl⟩

theorem EndsAt.prepend {b : Nat} {m m' : RM} {P : RM → Prop} (h : To 0 m m') (e : EndsAt m' P) : EndsAt m P := by
  refine Classical.byContradiction fun ng0 => ?_
  obtain ⟨⟨c, m'', h2, hb, ho, hp⟩⟩ := e
  refine ng0 ?_
  exact ⟨⟨0 + c, m'', h.trans h2, by omega, ho, hp⟩⟩

theorem val_miss {x : List Nat} (hx : x.length ≤ lim) {i : Nat} (hi : span sp x = i) (h61 : x[i]? ≠ some 61) :
    EndsAt (Sre.forSearch codeVal x.toArray 1 0 x.length false) Miss := by
  by_cases hn : 1 ≤ x.length
  · exact EndsAt.prepend (b := 0) (search_start codeVal x 1 0 1 false (st codeVal x x.length false false 0 5 0 0 true (Array.replicate (2 * 1) none) (-1) (-1) #[] none [ns 5 0 true] 1 none) rfl (Nat.zero_le _) (by omega)) (pre_miss1 (ls := x.length) pre_val hx hn (Nat.le_refl _) hi h61)
  · exact search_short codeVal x 1 0 1 false rfl rfl rfl (by omega)
end Mine
end
section
open PySem PySem.W PyProof.Rows
namespace Mine

theorem twin_hit {x : List Nat} (hx : x.length ≤ lim) {k : Nat} (hk : span junkP x = k) :
    EndsAt (Sre.forSearch codeTwin x.toArray 0 0 x.length false) (Hit0 0 k) := by
  have s0 := search_start (D := st codeTwin x 0 false false 0 5 0 0 true #[] 0 0 #[] none [] 0 none) codeTwin x 0 0 0 false (st codeTwin x x.length false false 0 5 0 0 true (Array.replicate (2 * 0) none) (-1) (-1) #[] none [ns 5 0 true] 1 none) rfl (Nat.zero_le _) (by omega)
  have s1 := to_at0 (m := st codeTwin x x.length false false 0 5 0 0 true (Array.replicate (2 * 0) none) (-1) (-1) #[] none [ns 5 0 true] 1 none) ⟨rfl, rfl, show 5 < codeTwin.size by decide⟩ rfl rfl rfl
  have s2 := to_run (code := codeTwin) (x := x) (ls := x.length) (wh := false) (mu := false) (s := 0) (pc := 7) (pos := 0) (hd := 0) (om := true) (mk := Array.replicate (2 * 0) none) (lm := -1) (li := -1) (lp := #[]) (fr := [ns 5 0 true]) (wt := 1) (k := 13) (least := 0) acc_twin (by decide) rfl rfl rfl rfl hx (Nat.zero_le _) (Nat.zero_le _) (by omega)
  rw [List.drop_zero, hk, Nat.zero_add] at s2
  have s6 := to_success (m := st codeTwin x x.length false false 0 21 k k true (Array.replicate (2 * 0) none) (-1) (-1) #[] none [gb 7 k true k (-1) (-1), ns 5 0 true] 2 none) ⟨rfl, rfl, show 21 < codeTwin.size by decide⟩ rfl rfl
  have s7 := pop_yes (code := codeTwin) (x := x) (ls := x.length) (wh := false) (mu := false) (s := 0) (pc := 21) (pos := k) (hd := k) (om := true) (mk := Array.replicate (2 * 0) none) (lm := -1) (li := -1) (lp := #[]) (inn := none) (f := gb 7 k true k (-1) (-1)) (fr := [ns 5 0 true]) (wt := 2) (.inl rfl)
  have s9 := pop_yes (code := codeTwin) (x := x) (ls := x.length) (wh := false) (mu := false) (s := 0) (pc := 7) (pos := k) (hd := k) (om := true) (mk := Array.replicate (2 * 0) none) (lm := -1) (li := -1) (lp := #[]) (inn := none) (f := ns 5 0 true) (fr := []) (wt := 1) (.inr rfl)
  have s10 := To.finish (m := st codeTwin x x.length false false 0 5 0 k true (Array.replicate (2 * 0) none) (-1) (-1) #[] none [] 0 (some true)) rfl rfl rfl
  exact EndsAt.of ((((((s0.trans s1).trans s2).trans s6).trans s7).trans s9).trans s10) (by omega) rfl ⟨rfl, rfl, rfl⟩

theorem twin_miss {x : List Nat} (hx : x.length ≤ lim) {k : Nat} {mu : Bool} (h0 : 0 < k) (hk : k ≤ x.length) :
    EndsAt (Sre.forSearch codeTwin x.toArray 0 k x.length mu) Miss := by
  have s0 := search_start codeTwin x 0 k 0 mu (st codeTwin x x.length false mu k 5 k k true (Array.replicate (2 * 0) none) (-1) (-1) #[] none [ns 5 k true] 1 none) rfl hk (by omega)
  have g := later_starts (code := codeTwin) (x := x) (ls := x.length) (wh := false) (pc := 5) rfl rfl (by decide) noFirst_twin (x.length - k) (q := k) (s := k) (hd := k) (mu := mu) (o := true) (mk := Array.replicate (2 * 0) none) (lm := -1) (li := -1) h0 rfl
  exact Goes.miss (Goes.pre s0 g (Nat.le_refl _)) (by simp only [lim] at hx; omega)

theorem jtok_start (x : List Nat) (hx : 1 ≤ x.length) :
    To 0 (Sre.forMatch codeJTok x.toArray 0 0 x.length true false) (st codeJTok x 0 true false 0 5 0 0 true (Array.replicate (2 * 0) none) (-1) (-1) #[] none [] 0 none) := by
  intro sn
  refine ⟨0, Nat.le_refl _, sn, ?_⟩
  show ({ Sre.forMatch codeJTok x.toArray 0 0 x.length true false with seen := sn } : RM) = _
  have e : Sre.forMatch codeJTok x.toArray 0 0 x.length true false = (if (1 != 0 && decide (0 ≤ x.length) && decide (x.length - 0 < 1)) = true then ({ (st codeJTok x 0 true false 0 5 0 0 true (Array.replicate (2 * 0) none) (-1) (-1) #[] none [] 0 none) with seen := ({} : Sre.Seen).add 14 } : RM).say false
    else { (st codeJTok x 0 true false 0 5 0 0 true (Array.replicate (2 * 0) none) (-1) (-1) #[] none [] 0 none) with seen := ({} : Sre.Seen).add 14 }) := rfl
  rw [e, if_neg (by simp only [Bool.and_eq_true, decide_eq_true_eq, not_and]; intro _; omega)]
  rfl
theorem jtok_empty : EndsAt (Sre.forMatch codeJTok (([] : List Nat).toArray) 0 0 0 true false) Miss := by
  have e : Sre.forMatch codeJTok (([] : List Nat).toArray) 0 0 0 true false = ({ (st codeJTok [] 0 true false 0 5 0 0 true (Array.replicate (2 * 0) none) (-1) (-1) #[] none [] 0 none) with seen := ({} : Sre.Seen).add 14 } : RM).say false := rfl
  rw [e]
  exact EndsAt.of (To.finish rfl rfl rfl) (by omega) rfl rfl

theorem span_all {P : Nat → Bool} : ∀ {l : List Nat}, span P l = l.length ↔ l.all P = true
  | [] => by simp [span]
  | c :: l => by
    have := span_le P l
    have ih := @span_all P l
    cases h : P c with
    | true => rw [span_pos h]; simp [h, ← ih]
    | false => rw [span_neg h]; simp [h]

theorem jtok_hit {x : List Nat} (hx : x.length ≤ lim) (hn : x ≠ []) (ha : x.all bareP = true) :
    EndsAt (Sre.forMatch codeJTok x.toArray 0 0 x.length true false) (Hit0 0 x.length) := by
  have hn' : 1 ≤ x.length := by cases x with | nil => exact absurd rfl hn | cons c l => simp
  have hs := span_all.mpr ha
  have s0 := jtok_start x hn'
  have s2 := to_run (code := codeJTok) (x := x) (ls := 0) (wh := true) (mu := false) (s := 0) (pc := 5) (pos := 0) (hd := 0) (om := true) (mk := Array.replicate (2 * 0) none) (lm := -1) (li := -1) (lp := #[]) (fr := []) (wt := 0) (k := 16) (least := 1) acc_jtok (by decide) rfl rfl rfl rfl hx (Nat.zero_le _) (by rw [List.drop_zero, hs]; exact hn') (by omega)
  rw [List.drop_zero, hs, Nat.zero_add] at s2
  have s6 := to_success (m := st codeJTok x 0 true false 0 22 x.length x.length true (Array.replicate (2 * 0) none) (-1) (-1) #[] none [gb 5 x.length true x.length (-1) (-1)] 1 none) ⟨rfl, rfl, show 22 < codeJTok.size by decide⟩ rfl (by simp)
  have s7 := pop_yes (code := codeJTok) (x := x) (ls := 0) (wh := true) (mu := false) (s := 0) (pc := 22) (pos := x.length) (hd := x.length) (om := true) (mk := Array.replicate (2 * 0) none) (lm := -1) (li := -1) (lp := #[]) (inn := none) (f := gb 5 x.length true x.length (-1) (-1)) (fr := []) (wt := 1) (.inl rfl)
  have s10 := To.finish (m := st codeJTok x 0 true false 0 5 x.length x.length true (Array.replicate (2 * 0) none) (-1) (-1) #[] none [] 0 (some true)) rfl rfl rfl
  exact EndsAt.of ((((s0.trans s2).trans s6).trans s7).trans s10) (by omega) rfl ⟨rfl, rfl, rfl⟩

theorem jtok_unwind {x : List Nat} : ∀ (c : Nat) {pc pos hd : Nat} {om : Bool} {mk : Array (Option Nat)} {lm li : Int}, c + 1 < x.length →
    ∃ m', To (2 * c + 2) (st codeJTok x 0 true false 0 pc pos hd om mk lm li #[] none [gb 5 (c + 1) true ((c + 1 : Nat) : Int) (-1) (-1)] 1 (some false)) m' ∧ m'.outcome = some .failed
  | 0, pc, pos, hd, om, mk, lm, li, h => ⟨_, (giveBack_no (code := codeJTok) (x := x) (ls := 0) (wh := true) (mu := false) (s := 0) (pc := pc) (pos := pos) (hd := hd) (om := om) (mk := mk) (lm := lm) (li := li) (lp := #[]) (inn := none) (fr := []) (wt := 1) (cnt := ((0 + 1 : Nat) : Int)) (p := 5) (q := 0 + 1) (o := true) (kl := -1) (ki := -1) (by decide)).trans (To.finish rfl rfl rfl), rfl⟩
  | c + 1, pc, pos, hd, om, mk, lm, li, h => by
    have g := giveBack_more (code := codeJTok) (x := x) (ls := 0) (wh := true) (mu := false) (s := 0) (pc := pc) (pos := pos) (hd := hd) (om := om) (mk := mk) (lm := lm) (li := li) (lp := #[]) (inn := none) (fr := []) (wt := 1) (cnt := ((c + 1 + 1 : Nat) : Int)) (p := 5) (q := c + 1 + 1) (k := 16) (o := true) (kl := -1) (ki := -1) (by
      have e : codeJTok.getD (5 + 2) 0 = 1 := rfl
      rw [e]; omega) rfl (by omega) (by omega)
    have e2 : ((c + 1 + 1 : Nat) : Int) - 1 = ((c + 1 : Nat) : Int) := by omega
    rw [e2] at g
    have s6 := to_success_no (m := st codeJTok x 0 true false 0 22 (c + 1) (c + 1) true mk (-1) (-1) #[] none [gb 5 (c + 1) true ((c + 1 : Nat) : Int) (-1) (-1)] 1 none) ⟨rfl, rfl, show 22 < codeJTok.size by decide⟩ rfl (by simp; omega)
    obtain ⟨m', t, e⟩ := jtok_unwind (x := x) c (pc := 22) (pos := c + 1) (hd := c + 1) (om := true) (mk := mk) (lm := -1) (li := -1) (by omega)
    exact ⟨m', ((g.trans s6).trans t).mono (by omega), e⟩

theorem jtok_miss {x : List Nat} (hx : x.length ≤ lim) (ha : x.isEmpty = true ∨ x.all bareP = false) :
    EndsAt (Sre.forMatch codeJTok x.toArray 0 0 x.length true false) Miss := by
  by_cases hn : x = []
  · subst hn; exact jtok_empty
  have ha : x.all bareP = false := by
    rcases ha with h | h
    · exact absurd (List.isEmpty_iff.mp h) hn
    · exact h
  have hn' : 1 ≤ x.length := by cases x with | nil => exact absurd rfl hn | cons c l => simp
  have hs : span bareP x ≠ x.length := fun e => by rw [span_all.mp e] at ha; cases ha
  have hle := span_le bareP x
  have s0 := jtok_start x hn'
  cases hj : span bareP x with
  | zero =>
    obtain ⟨p, t⟩ := to_run_no (code := codeJTok) (x := x) (ls := 0) (wh := true) (mu := false) (s := 0) (pc := 5) (pos := 0) (hd := 0) (om := true) (mk := Array.replicate (2 * 0) none) (lm := -1) (li := -1) (lp := #[]) (fr := []) (wt := 0) (least := 1) acc_jtok (by decide) rfl rfl rfl hx (Nat.zero_le _) (by rw [List.drop_zero, hj]; omega)
    exact EndsAt.of ((s0.trans t).trans (To.finish rfl rfl rfl)) (by omega) rfl rfl
  | succ c =>
    have s2 := to_run (code := codeJTok) (x := x) (ls := 0) (wh := true) (mu := false) (s := 0) (pc := 5) (pos := 0) (hd := 0) (om := true) (mk := Array.replicate (2 * 0) none) (lm := -1) (li := -1) (lp := #[]) (fr := []) (wt := 0) (k := 16) (least := 1) acc_jtok (by decide) rfl rfl rfl rfl hx (Nat.zero_le _) (by rw [List.drop_zero, hj]; omega) (by omega)
    rw [List.drop_zero, hj, Nat.zero_add] at s2
    have s6 := to_success_no (m := st codeJTok x 0 true false 0 22 (c + 1) (c + 1) true (Array.replicate (2 * 0) none) (-1) (-1) #[] none [gb 5 (c + 1) true ((c + 1 : Nat) : Int) (-1) (-1)] 1 none) ⟨rfl, rfl, show 22 < codeJTok.size by decide⟩ rfl (by simp; omega)
    refine Classical.byContradiction fun ng0 => ?_
    obtain ⟨m', t, e⟩ := jtok_unwind (x := x) c (pc := 22) (pos := c + 1) (hd := c + 1) (om := true) (mk := Array.replicate (2 * 0) none) (lm := -1) (li := -1) (by omega)
    refine ng0 ?_
    exact EndsAt.of (((s0.trans s2).trans s6).trans t) (by simp only [lim] at hx; omega) (by rw [e]; rfl) e
end Mine
end
section
open PySem PySem.W PyProof.Rows
namespace Mine

noncomputable def qend : List Nat → Option Nat
  | [] => none
  | [c] => if c = 34 then some 0 else none
  | c :: d :: r => if c = 34 then some 0 else if c = 92 then (if d = 10 then none else (qend r).map (· + 2)) else (qend (d :: r)).map (· + 1)
noncomputable def ut : List Nat → Option Nat
  | [] => none
  | c :: r => if c = 34 ∨ c = 92 then qend (c :: r) else none

theorem qend_cons {c : Nat} {r : List Nat} (h : bodyP c = true) : qend (c :: r) = (qend r).map (· + 1) := by
  have h1 : c ≠ 34 ∧ c ≠ 92 := by simpa [bodyP] using h
  cases r with
  | nil => simp [qend, h1]
  | cons d r => simp [qend, h1]
theorem ut_stop {c : Nat} {r : List Nat} (h : bodyP c = false) : ut (c :: r) = qend (c :: r) := by
  have : c = 34 ∨ c = 92 := by
    simp [bodyP] at h
    by_cases q : c = 34
    · exact .inl q
    · exact .inr (h q)
  simp [ut, this]
theorem ut_body {c : Nat} {r : List Nat} (h : bodyP c = true) : ut (c :: r) = none := by
  have h1 : c ≠ 34 ∧ c ≠ 92 := by simpa [bodyP] using h
  simp [ut, h1]
theorem qend_span : ∀ l : List Nat, qend l = (ut (l.drop (span bodyP l))).map (· + span bodyP l)
  | [] => rfl
  | c :: r => by
    cases h : bodyP c with
    | true =>
      rw [span_pos h, qend_cons h, qend_span r, List.drop_succ_cons, Option.map_map]
      congr 1
    | false =>
      rw [span_neg h, List.drop_zero, ut_stop h]
      cases qend (c :: r) <;> rfl

noncomputable abbrev lp1 (c : Int) (b : Option Nat) : Array Sre.Loop := #[{ pc := 46, count := c, began := b, outer := none }]
noncomputable abbrev mmF (p : Nat) (c : Int) (b : Option Nat) (a : Nat) : Sre.Frame := { wait := .maxMore, pc := 67, pos := p, outermost := true, count := c, kept := { lastmark := 0, lastindex := -1, whole := true, marks := #[some a] }, loop := 0, began := b }
noncomputable abbrev mtF (p : Nat) (c : Int) : Sre.Frame := { wait := .maxTail, pc := 67, pos := p, outermost := true, count := c, kept := { lastmark := 0, lastindex := -1 }, loop := 0 }
noncomputable abbrev gwF (q : Nat) (cnt : Int) (a : Nat) : Sre.Frame := { wait := .giveBack, pc := 53, pos := q, outermost := true, count := cnt, kept := { lastmark := 0, lastindex := -1, whole := true, marks := #[some a] } }

section
variable {x : List Nat} {ls : Nat} {a p : Nat} {y : Option Nat} {c : Int} {b : Option Nat} {hd pc pos : Nat} {om : Bool} {lm li : Int} {fr : List Sre.Frame} {wt : Nat}

noncomputable abbrev sq (x : List Nat) (ls : Nat) (pc pos hd : Nat) (om : Bool) (mk : Array (Option Nat)) (lm li : Int) (lp : Array Sre.Loop) (inn : Option Nat) (fr : List Sre.Frame) (wt : Nat) (ans : Option Bool) : RM := st codeQuo x ls false false 0 pc pos hd om mk lm li lp inn fr wt ans

inductive NoSt (x : List Nat) (ls a : Nat) (lp : Array Sre.Loop) (inn : Option Nat) (fr : List Sre.Frame) (wt : Nat) : RM → Prop where
  | mk (pc pos hd : Nat) (y : Option Nat) (lm li : Int) : NoSt x ls a lp inn fr wt (sq x ls pc pos hd true #[some a, y] lm li lp inn fr wt (some false))
inductive YesSt (x : List Nat) (ls a q : Nat) (fr : List Sre.Frame) (wt : Nat) : RM → Prop where
  | mk (pc pos : Nat) (lp : Array Sre.Loop) (inn : Option Nat) : YesSt x ls a q fr wt (sq x ls pc pos (q + 1) true #[some a, some q] 1 1 lp inn fr wt (some true))
theorem q_until (hc : -1 ≤ c) (hb : b ≠ some p) (hwt : wt ≤ 16777000) :
    To 1 (sq x ls 66 p hd true #[some a, y] 0 (-1) (lp1 c b) (some 0) fr wt none) (sq x ls 50 p p true #[some a, y] 0 (-1) (lp1 (c + 1) (some p)) (some 0) (mmF p (c + 1) b a :: fr) (wt + 2) none) :=
  To.exec ⟨rfl, rfl, show 66 < codeQuo.size by decide⟩ fun sn => ⟨sn.add 18, (exec_until rfl).trans ((until_more (i := 0) rfl (by show ¬ (c + 1 < 0); omega) rfl (by exact bne_iff_ne.mpr hb)).trans (if_neg (show ¬ (16777216 < wt + 1 + 1) by omega)))⟩

theorem q_more_no (hwt : wt ≤ 16777000) :
    To 1 (sq x ls pc pos hd om #[some a, y] lm li (lp1 (c + 1) (some p)) (some 0) (mmF p (c + 1) b a :: fr) (wt + 2) (some false)) (sq x ls 67 p p true #[some a, y] 0 (-1) (lp1 c b) none (mtF p (c + 1) :: fr) (wt + 1) none) :=
  To.answer rfl rfl rfl fun sn => ⟨sn, (res_more rfl).trans ((if_neg (show ¬ (16777216 < wt + 2 - 2 + 1 + 0) by omega)).trans (by
    show ({ sq x ls 67 p p true #[some a, y] 0 (-1) (lp1 (c + 1 - 1) b) none (mtF p (c + 1) :: fr) (wt + 2 - 2 + 1 + 0) none with seen := sn } : RM) = _
    rw [Int.add_sub_cancel, Nat.add_sub_cancel]; rfl))⟩
theorem q_more_yes {mk : Array (Option Nat)} {lp : Array Sre.Loop} {inn : Option Nat} :
    ∃ lp', To 1 (sq x ls pc pos hd om mk lm li lp inn (mmF p c b a :: fr) (wt + 2) (some true)) (sq x ls 67 p hd true mk lm li lp' inn fr wt (some true)) :=
  ⟨lp.modify 0 fun l => { l with began := b }, To.answer rfl rfl rfl fun sn => ⟨sn, (res_more_yes rfl).trans rfl⟩⟩
theorem q_tail {mk : Array (Option Nat)} {lp : Array Sre.Loop} {inn : Option Nat} {yes : Bool} :
    To 1 (sq x ls pc pos hd om mk lm li lp inn (mtF p c :: fr) (wt + 1) (some yes)) (sq x ls 67 p hd true mk lm li lp (some 0) fr wt (some yes)) :=
  To.answer rfl rfl rfl fun sn => ⟨sn, (res_tail rfl).trans rfl⟩
theorem gw_yes {q : Nat} {cnt : Int} {mk : Array (Option Nat)} {lp : Array Sre.Loop} {inn : Option Nat} :
    To 1 (sq x ls pc pos hd om mk lm li lp inn (gwF q cnt a :: fr) (wt + 2) (some true)) (sq x ls 53 q hd true mk lm li lp inn fr wt (some true)) :=
  To.answer rfl rfl rfl fun sn => ⟨sn, (res_back_yes rfl).trans rfl⟩
theorem gw_no {q : Nat} {cnt : Int} {lp : Array Sre.Loop} {inn : Option Nat} (h : cnt ≤ 0) :
    To 1 (sq x ls pc pos hd om #[some a, y] lm li lp inn (gwF q cnt a :: fr) (wt + 2) (some false)) (sq x ls 53 q hd true #[some a, y] 0 (-1) lp inn fr wt (some false)) :=
  To.answer rfl rfl rfl fun sn => ⟨sn, (res_back rfl).trans ((if_pos (show cnt - 1 < 0 by omega)).trans rfl)⟩
theorem gw_more {q : Nat} {cnt : Int} {lp : Array Sre.Loop} {inn : Option Nat} (h : 0 < cnt) (hwt : wt ≤ 16777000) :
    To 1 (sq x ls pc pos hd om #[some a, y] lm li lp inn (gwF q cnt a :: fr) (wt + 2) (some false)) (sq x ls 66 (q - 1) (q - 1) true #[some a, y] 0 (-1) lp inn (gwF (q - 1) (cnt - 1) a :: fr) (wt + 2) none) :=
  To.answer rfl rfl rfl fun sn => ⟨sn, (res_back rfl).trans ((if_neg (show ¬ (cnt - 1 < 0) by omega)).trans ((if_neg (show ¬ (16777216 < wt + 2 - 2 + 1 + 1) by omega)).trans rfl))⟩

theorem q_close (hwt : wt ≤ 16777000) (h : x[p]? = some 34) :
    To 5 (sq x ls pc pos hd om #[some a, y] lm li (lp1 (c + 1) (some p)) (some 0) (mmF p (c + 1) b a :: fr) (wt + 2) (some false)) (sq x ls 67 p (p + 1) true #[some a, some p] 1 1 (lp1 c b) (some 0) fr wt (some true)) := by
  have s1 := q_more_no (x := x) (ls := ls) (a := a) (p := p) (y := y) (c := c) (b := b) (hd := hd) (pc := pc) (pos := pos) (om := om) (lm := lm) (li := li) (fr := fr) (wt := wt) hwt
  have s2 := to_mark1 (code := codeQuo) (x := x) (ls := ls) (wh := false) (mu := false) (s := 0) (pc := 67) (pos := p) (hd := p) (om := true) (mk := #[some a, y]) (li := -1) (lp := lp1 c b) (inn := none) (fr := mtF p (c + 1) :: fr) (wt := wt + 1) (by decide) rfl rfl
  have s3 := to_lit (m := sq x ls 69 p p true #[some a, some p] 1 1 (lp1 c b) none (mtF p (c + 1) :: fr) (wt + 1) none) ⟨rfl, rfl, show 69 < codeQuo.size by decide⟩ rfl (c := 34) rfl (lt_some h) (getD_some h)
  have s4 := to_success (m := sq x ls 71 (p + 1) p true #[some a, some p] 1 1 (lp1 c b) none (mtF p (c + 1) :: fr) (wt + 1) none) ⟨rfl, rfl, show 71 < codeQuo.size by decide⟩ rfl rfl
  have s5 := q_tail (x := x) (ls := ls) (p := p) (c := c + 1) (hd := p + 1) (pc := 71) (pos := p + 1) (om := true) (lm := 1) (li := 1) (fr := fr) (wt := wt) (mk := #[some a, some p]) (lp := lp1 c b) (inn := none) (yes := true)
  exact (((s1.trans s2).trans s3).trans s4).trans s5
theorem q_open (hwt : wt ≤ 16777000) (h : x[p]? ≠ some 34) :
    To 4 (sq x ls pc pos hd om #[some a, y] lm li (lp1 (c + 1) (some p)) (some 0) (mmF p (c + 1) b a :: fr) (wt + 2) (some false)) (sq x ls 67 p p true #[some a, some p] 1 1 (lp1 c b) (some 0) fr wt (some false)) := by
  have s1 := q_more_no (x := x) (ls := ls) (a := a) (p := p) (y := y) (c := c) (b := b) (hd := hd) (pc := pc) (pos := pos) (om := om) (lm := lm) (li := li) (fr := fr) (wt := wt) hwt
  have s2 := to_mark1 (code := codeQuo) (x := x) (ls := ls) (wh := false) (mu := false) (s := 0) (pc := 67) (pos := p) (hd := p) (om := true) (mk := #[some a, y]) (li := -1) (lp := lp1 c b) (inn := none) (fr := mtF p (c + 1) :: fr) (wt := wt + 1) (by decide) rfl rfl
  have s3 := to_lit_no (m := sq x ls 69 p p true #[some a, some p] 1 1 (lp1 c b) none (mtF p (c + 1) :: fr) (wt + 1) none) ⟨rfl, rfl, show 69 < codeQuo.size by decide⟩ rfl (c := 34) rfl (getD_ne h)
  have s5 := q_tail (x := x) (ls := ls) (p := p) (c := c + 1) (hd := p) (pc := 69) (pos := p) (om := true) (lm := 1) (li := 1) (fr := fr) (wt := wt) (mk := #[some a, some p]) (lp := lp1 c b) (inn := none) (yes := false)
  exact ((s1.trans s2).trans s3).trans s5

theorem q_noround (hc : -1 ≤ c) (hb : b ≠ some p) (hwt : wt ≤ 16777000) (h : x[p]? = some 92 → x[p + 1]? = none ∨ x[p + 1]? = some 10) :
    Goes 3 (sq x ls 66 p hd true #[some a, y] 0 (-1) (lp1 c b) (some 0) fr wt none) (NoSt x ls a (lp1 (c + 1) (some p)) (some 0) (mmF p (c + 1) b a :: fr) (wt + 2)) := by
  refine Goes.pre (k := 2) (q_until hc hb hwt) ?_ (Nat.le_refl _)
  by_cases h1 : x[p]? = some 92
  · refine Goes.pre (k := 1) (to_lit (m := sq x ls 50 p p true #[some a, y] 0 (-1) (lp1 (c + 1) (some p)) (some 0) (mmF p (c + 1) b a :: fr) (wt + 2) none) ⟨rfl, rfl, show 50 < codeQuo.size by decide⟩ rfl (c := 92) rfl (lt_some h1) (getD_some h1)) ?_ (Nat.le_refl _)
    refine ⟨_, to_any_no (m := sq x ls 52 (p + 1) p true #[some a, y] 0 (-1) (lp1 (c + 1) (some p)) (some 0) (mmF p (c + 1) b a :: fr) (wt + 2) none) ⟨rfl, rfl, show 52 < codeQuo.size by decide⟩ rfl (fun hlt => ?_), .mk ..⟩
    rcases h h1 with q | q
    · rw [List.getElem?_eq_none_iff] at q
      exact absurd (show p + 1 < x.length from hlt) (Nat.not_lt.mpr q)
    · exact getD_some q
  · exact ⟨_, (to_lit_no (m := sq x ls 50 p p true #[some a, y] 0 (-1) (lp1 (c + 1) (some p)) (some 0) (mmF p (c + 1) b a :: fr) (wt + 2) none) ⟨rfl, rfl, show 50 < codeQuo.size by decide⟩ rfl (c := 92) rfl (getD_ne h1)).mono (by decide), .mk ..⟩
end
end Mine
end
section
open PySem PySem.W PyProof.Rows
namespace Mine
section
variable {x : List Nat} {ls : Nat} {a : Nat}

noncomputable def esc (x : List Nat) (p : Nat) : Prop := x[p]? = some 92 ∧ ∃ d, x[p + 1]? = some d ∧ d ≠ 10

theorem ut_noround {p : Nat} (h : ¬ esc x p) : ut (x.drop p) = if x[p]? = some 34 then some 0 else none := by
  rcases Nat.lt_or_ge p x.length with q | q
  · rw [List.drop_eq_getElem_cons q]
    have e : x[p]? = some x[p] := List.getElem?_eq_getElem q
    by_cases h34 : x[p] = 34
    · rw [e, h34]
      simp only [if_true]
      rw [ut_stop rfl]
      cases x.drop (p + 1) <;> simp [qend]
    · rw [e, if_neg (by simp [h34])]
      by_cases h92 : x[p] = 92
      · have hn : ∀ d, x[p + 1]? = some d → d = 10 := fun d hd => by
          rcases Nat.decEq d 10 with z | z
          · exact absurd ⟨by rw [e, h92], d, hd, z⟩ h
          · exact z
        rw [h92, ut_stop rfl]
        rcases Nat.lt_or_ge (p + 1) x.length with q2 | q2
        · have e2 : x[p + 1]? = some x[p + 1] := List.getElem?_eq_getElem q2
          rw [List.drop_eq_getElem_cons q2, hn _ e2]
          simp [qend]
        · rw [List.drop_eq_nil_of_le q2]; simp [qend]
      · exact ut_body (by simp [bodyP, h34, h92])
  · rw [List.drop_eq_nil_of_le q, List.getElem?_eq_none q]; rfl
theorem ut_round {p : Nat} (h : esc x p) : ut (x.drop p) = (qend (x.drop (p + 2))).map (· + 2) := by
  refine Classical.byContradiction fun ng0 => ?_
  obtain ⟨h1, d, h2, h3⟩ := h
  have q := lt_some h1
  have q2 := lt_some h2
  refine ng0 ?_
  rw [List.drop_eq_getElem_cons q, List.drop_eq_getElem_cons q2]
  rw [List.getElem?_eq_getElem q] at h1
  rw [List.getElem?_eq_getElem q2] at h2
  cases h2
  injection h1 with h1
  rw [h1]
  unfold ut
  simp [qend, h3]

theorem until_plain {p : Nat} {y : Option Nat} {c : Int} {b : Option Nat} {hd : Nat} {fr : List Sre.Frame} {wt : Nat} (hc : -1 ≤ c) (hb : b ≠ some p) (hwt : wt ≤ 16777000) (hn : ¬ esc x p) (h34 : x[p]? ≠ some 34) :
    Goes 7 (sq x ls 66 p hd true #[some a, y] 0 (-1) (lp1 c b) (some 0) fr wt none) (NoSt x ls a (lp1 c b) (some 0) fr wt) :=
  (q_noround hc hb hwt fun e => by
    cases q : x[p + 1]? with
    | none => exact .inl rfl
    | some d =>
      right
      rcases Nat.decEq d 10 with z | z
      · exact absurd ⟨e, d, q, z⟩ hn
      · rw [z]).bind (k := 4) (fun m' h => by cases h; exact ⟨_, q_open hwt h34, .mk ..⟩) (Nat.le_refl _)
theorem body_at {k : Nat} (h : bodyP (x.toArray.getD k 0) = true ∧ k < x.length) : ¬ esc x k ∧ x[k]? ≠ some 34 := by
  have hx : x[k]? = some (x.toArray.getD k 0) := by simp [h.2]
  have hne : x.toArray.getD k 0 ≠ 34 ∧ x.toArray.getD k 0 ≠ 92 := by simpa [bodyP] using h.1
  exact ⟨fun e => hne.2 (Option.some.inj (hx.symm.trans e.1)), fun e => hne.1 (Option.some.inj (hx.symm.trans e))⟩
theorem body_span {i q : Nat} (h : q < span bodyP (x.drop i)) : bodyP (x.toArray.getD (i + q) 0) = true ∧ i + q < x.length := by
  refine Classical.byContradiction fun ng0 => ?_
  obtain ⟨ch, e1, e2⟩ := span_take (P := bodyP) (x.drop i) q h
  rw [List.getElem?_drop] at e1
  refine ng0 ?_
  exact ⟨by rw [getD_some e1]; exact e2, lt_some e1⟩
theorem unwindW {c : Int} {b : Option Nat} {base : Nat} (hc : -1 ≤ c) {fr : List Sre.Frame} {wt : Nat} (hwt : wt ≤ 16776000) : ∀ (j : Nat), (∀ q, q < j → (bodyP (x.toArray.getD (base + q) 0) = true ∧ base + q < x.length) ∧ b ≠ some (base + q)) →
    ∀ {m : RM}, NoSt x ls a (lp1 c b) (some 0) (gwF (base + j) j a :: fr) (wt + 2) m → Goes (9 * j + 1) m (NoSt x ls a (lp1 c b) (some 0) fr wt)
  | 0, _, m, hm => by cases hm; exact ⟨_, gw_no (by decide), .mk ..⟩
  | j + 1, h, m, hm => by
    cases hm with
    | mk pc pos hd y lm li =>
    have g := gw_more (x := x) (ls := ls) (a := a) (y := y) (hd := hd) (pc := pc) (pos := pos) (om := true) (lm := lm) (li := li) (fr := fr) (wt := wt) (q := base + (j + 1)) (cnt := ((j + 1 : Nat) : Int)) (lp := lp1 c b) (inn := some 0) (by omega) (by omega)
    rw [show base + (j + 1) - 1 = base + j by omega, show ((j + 1 : Nat) : Int) - 1 = (j : Int) by omega] at g
    obtain ⟨h1, h2⟩ := h j (Nat.lt_succ_self _)
    exact Goes.pre g ((until_plain hc h2 (by omega) (body_at h1).1 (body_at h1).2).bind (fun m' hm' => unwindW hc hwt j (fun q hq => h q (Nat.lt_succ_of_lt hq)) hm') (Nat.le_refl _)) (by omega)

noncomputable def UOut (x : List Nat) (ls a p : Nat) (lp : Array Sre.Loop) (inn : Option Nat) (fr : List Sre.Frame) (wt : Nat) : Option Nat → RM → Prop
  | some k => YesSt x ls a (p + k) fr wt
  | none => NoSt x ls a lp inn fr wt
theorem YesSt.to {q q' : Nat} {fr : List Sre.Frame} {wt : Nat} {m : RM} (h : YesSt x ls a q fr wt m) (e : q = q') : YesSt x ls a q' fr wt m := e ▸ h

theorem until_ends (hx : x.length ≤ 1000000) : ∀ (n p : Nat) (y : Option Nat) (c : Int) (b : Option Nat) (hd : Nat) (fr : List Sre.Frame) (wt : Nat), x.length - p ≤ n → p ≤ x.length → -1 ≤ c → (∀ q, b = some q → q < p) → wt + 8 * (x.length - p) ≤ 16000000 →
    Goes (16 * (x.length - p) + 16) (sq x ls 66 p hd true #[some a, y] 0 (-1) (lp1 c b) (some 0) fr wt none) (UOut x ls a p (lp1 c b) (some 0) fr wt (ut (x.drop p))) := by
  intro n
  induction n using Nat.strongRecOn with
  | ind n ih =>
  intro p y c b hd fr wt hn hp hc hbp hwt
  have hb : b ≠ some p := fun e => Nat.lt_irrefl _ (hbp p e)
  by_cases he : esc x p
  · refine Classical.byContradiction fun ng0 => ?_
    obtain ⟨h1, d, h2, h3⟩ := id he
    have l1 := lt_some h1
    have l2 := lt_some h2
    have hj := span_le bodyP (x.drop (p + 2))
    rw [List.length_drop] at hj
    refine ng0 ?_
    refine Goes.pre (k := 16 * (x.length - p) + 15) (q_until hc hb (by omega)) ?_ (by omega)
    refine Goes.pre (k := 16 * (x.length - p) + 14) (to_lit (m := sq x ls 50 p p true #[some a, y] 0 (-1) (lp1 (c + 1) (some p)) (some 0) (mmF p (c + 1) b a :: fr) (wt + 2) none) ⟨rfl, rfl, show 50 < codeQuo.size by decide⟩ rfl (c := 92) rfl l1 (getD_some h1)) ?_ (by omega)
    refine Goes.pre (k := 16 * (x.length - p) + 13) (to_any (m := sq x ls 52 (p + 1) p true #[some a, y] 0 (-1) (lp1 (c + 1) (some p)) (some 0) (mmF p (c + 1) b a :: fr) (wt + 2) none) ⟨rfl, rfl, show 52 < codeQuo.size by decide⟩ rfl l2 (by rw [show x.toArray.getD (p + 1) 0 = d from getD_some h2]; exact h3)) ?_ (by omega)
    have s4 : To 1 (sq x ls 53 (p + 2) p true #[some a, y] 0 (-1) (lp1 (c + 1) (some p)) (some 0) (mmF p (c + 1) b a :: fr) (wt + 2) none)
      (sq x ls 66 (p + 2 + span bodyP (x.drop (p + 2))) (p + 2 + span bodyP (x.drop (p + 2))) true #[some a, y] 0 (-1) (lp1 (c + 1) (some p)) (some 0) (gwF (p + 2 + span bodyP (x.drop (p + 2))) (span bodyP (x.drop (p + 2))) a :: mmF p (c + 1) b a :: fr) (wt + 4) none) :=
      to_rep1 (m := sq x ls 53 (p + 2) p true #[some a, y] 0 (-1) (lp1 (c + 1) (some p)) (some 0) (mmF p (c + 1) b a :: fr) (wt + 2) none) ⟨rfl, rfl, show 53 < codeQuo.size by decide⟩ rfl (least := 0) (most := 4294967295) (k := 12) rfl rfl rfl (j := span bodyP (x.drop (p + 2))) (fun sn => by
        have hm : min 4294967295 (x.length - (p + 2)) = x.length - (p + 2) := by omega
        obtain ⟨sn', e⟩ := run_span acc_quo_body2 x (x.length - (p + 2)) (p + 2) 0 sn (by omega)
        exact ⟨sn', by
          show Sre.run codeQuo x.toArray (53 + 4) (min 4294967295 (x.length - (p + 2))) (p + 2) 0 sn = _
          rw [hm, e, Nat.zero_add]⟩) (by show p + 2 ≤ x.length; omega) (Nat.zero_le _) (Nat.zero_le _) (by show wt + 2 + 1 + 1 ≤ 16777216; omega)
    have hbody : ∀ q, q < span bodyP (x.drop (p + 2)) → (bodyP (x.toArray.getD (p + 2 + q) 0) = true ∧ p + 2 + q < x.length) ∧ some p ≠ some (p + 2 + q) := fun q hq => ⟨body_span hq, fun e => by injection e; omega⟩
    have hu : ut (x.drop p) = (ut (x.drop (p + 2 + span bodyP (x.drop (p + 2))))).map (fun k => k + span bodyP (x.drop (p + 2)) + 2) := by
      rw [ut_round he, qend_span, List.drop_drop]
      cases ut (x.drop (p + 2 + span bodyP (x.drop (p + 2)))) <;> rfl
    rw [hu]
    clear hu
    generalize span bodyP (x.drop (p + 2)) = j at *
    refine Goes.pre (k := 16 * (x.length - p) + 12) s4 ?_ (by omega)
    have u := ih (x.length - (p + 2 + j)) (by omega) (p + 2 + j) y (c + 1) (some p) (p + 2 + j) (gwF (p + 2 + j) j a :: mmF p (c + 1) b a :: fr) (wt + 4) (Nat.le_refl _) (by omega) (by omega) (fun q e => by cases e; omega) (by omega)
    cases hr : ut (x.drop (p + 2 + j)) with
    | some k =>
      rw [hr] at u
      refine u.bind (k := 2) (fun m' hm => ?_) (by omega)
      cases (show YesSt x ls a (p + 2 + j + k) _ _ m' from hm) with
      | mk pc pos lp inn =>
      obtain ⟨lp'', s7⟩ := q_more_yes (x := x) (ls := ls) (a := a) (p := p) (c := c + 1) (b := b) (hd := p + 2 + j + k + 1) (pc := 53) (pos := p + 2 + j) (om := true) (lm := 1) (li := 1) (fr := fr) (wt := wt) (mk := #[some a, some (p + 2 + j + k)]) (lp := lp) (inn := inn)
      exact ⟨_, gw_yes.trans s7, (YesSt.mk ..).to (show p + 2 + j + k = p + (k + j + 2) by omega)⟩
    | none =>
      rw [hr] at u
      refine u.bind (k := 9 * j + 5) (fun m' hm => ?_) (by omega)
      refine (unwindW (by omega) (by omega) j hbody hm).bind (k := 4) (fun m2 hm2 => ?_) (by omega)
      cases hm2
      exact ⟨_, q_open (by omega) (by rw [h1]; decide), .mk ..⟩
  · rw [ut_noround he]
    by_cases h34 : x[p]? = some 34
    · rw [if_pos h34]
      refine (q_noround hc hb (by omega) (fun e => by rw [h34] at e; cases e)).bind (k := 5) (fun m' hm => ?_) (by omega)
      cases hm
      exact ⟨_, q_close (by omega) h34, .mk ..⟩
    · rw [if_neg h34]
      exact (until_plain hc hb (by omega) he h34).bind (k := 0) (fun m' hm => ⟨m', To.refl m', hm⟩) (by omega)
end
end Mine
end
section
open PySem PySem.W PyProof.Rows
namespace Mine
section
variable {x : List Nat} {ls : Nat} {a : Nat}

noncomputable abbrev clF (q : Nat) : Sre.Frame := { wait := .closeLoop, pc := 46, pos := q, outermost := true, loop := 0 }

theorem q_repeat {q hd : Nat} {mk : Array (Option Nat)} {lm li : Int} {fr : List Sre.Frame} {wt : Nat} (hwt : wt ≤ 16777000) :
    To 1 (sq x ls 46 q hd true mk lm li #[] none fr wt none) (sq x ls 66 q q true mk lm li (lp1 (-1) none) (some 0) (clF q :: fr) (wt + 1) none) :=
  To.exec ⟨rfl, rfl, show 46 < codeQuo.size by decide⟩ fun sn => ⟨sn.add 23, (exec_repeat rfl).trans ((if_neg (show ¬ (16777216 < wt + 1 + 0) by omega)).trans rfl)⟩
theorem q_cl_yes {pc pos q hd : Nat} {om : Bool} {mk : Array (Option Nat)} {lm li : Int} {lp : Array Sre.Loop} {inn : Option Nat} {fr : List Sre.Frame} {wt : Nat} :
    ∃ lp' inn', To 1 (sq x ls pc pos hd om mk lm li lp inn (clF q :: fr) (wt + 1) (some true)) (sq x ls 46 q hd true mk lm li lp' inn' fr wt (some true)) :=
  ⟨lp.pop, (lp.getD 0 { pc := 0, outer := none }).outer, To.answer rfl rfl rfl fun sn => ⟨sn, (res_close rfl).trans rfl⟩⟩
theorem q_cl_no {pc pos q hd : Nat} {om : Bool} {mk : Array (Option Nat)} {lm li : Int} {c : Int} {b : Option Nat} {fr : List Sre.Frame} {wt : Nat} :
    To 1 (sq x ls pc pos hd om mk lm li (lp1 c b) (some 0) (clF q :: fr) (wt + 1) (some false)) (sq x ls 46 q hd true mk lm li #[] none fr wt (some false)) :=
  To.answer rfl rfl rfl fun sn => ⟨sn, (res_close rfl).trans rfl⟩

theorem unwindB {base : Nat} {fr : List Sre.Frame} {wt : Nat} (hwt : wt ≤ 16776000) : ∀ (j : Nat), (∀ q, q < j → bodyP (x.toArray.getD (base + q) 0) = true ∧ base + q < x.length) →
    ∀ {m : RM}, NoSt x ls a #[] none (gb 33 (base + j) true j 0 (-1) :: fr) (wt + 1) m → Goes (10 * j + 1) m (NoSt x ls a #[] none fr wt)
  | 0, _, m, hm => by cases hm; exact ⟨_, giveBack_no (cnt := ((0 : Nat) : Int)) (by decide), .mk ..⟩
  | j + 1, h, m, hm => by
    cases hm with
    | mk pc pos hd y lm li =>
    have g := giveBack_more (code := codeQuo) (x := x) (ls := ls) (wh := false) (mu := false) (s := 0) (pc := pc) (pos := pos) (hd := hd) (om := true) (mk := #[some a, y]) (lm := lm) (li := li) (lp := #[]) (inn := none) (fr := fr) (wt := wt + 1) (cnt := ((j + 1 : Nat) : Int)) (p := 33) (q := base + (j + 1)) (k := 12) (o := true) (kl := 0) (ki := -1) (by
      show ¬ (((j + 1 : Nat) : Int) - 1 < 0); omega) rfl (by omega) (by omega)
    rw [show base + (j + 1) - 1 = base + j by omega, show ((j + 1 : Nat) : Int) - 1 = (j : Int) by omega] at g
    have h1 := h j (Nat.lt_succ_self _)
    refine Goes.pre (k := 10 * j + 10) g (Goes.pre (k := 10 * j + 9) (q_repeat (by omega)) ?_ (by omega)) (by omega)
    refine (until_plain (c := -1) (b := none) (wt := wt + 1 + 1) (by decide) (fun e => nomatch e) (by omega) (body_at h1).1 (body_at h1).2).bind (n := 7) (k := 10 * j + 2) (fun m' hm' => ?_) (by omega)
    cases hm'
    exact Goes.pre (k := 10 * j + 1) q_cl_no (unwindB hwt j (fun q hq => h q (Nat.lt_succ_of_lt hq)) (.mk ..)) (by omega)
end

theorem quo_start {x : List Nat} (h : 3 ≤ x.length) : To 0 (Sre.forSearch codeQuo x.toArray 1 0 x.length false) (st codeQuo x (x.length - 2) false false 0 5 0 0 true (Array.replicate (2 * 1) none) (-1) (-1) #[] none [ns 5 0 true] 1 none) := by
  exact search_start codeQuo x 1 0 3 false _ (sn := ({} : Sre.Seen).add 14) (by rw [← Nat.zero_max (x.length - 2)]; rfl) (Nat.zero_le _) h

theorem cap {n a c : Nat} (hx : n ≤ 1000000) (hc : c ≤ 60000000) : 16 * (n - a) + 16 + c ≤ 99999997 := Nat.le_trans (Nat.add_le_add (Nat.add_le_add_right (Nat.mul_le_mul_left 16 (Nat.le_trans (Nat.sub_le _ _) hx)) 16) hc) (by decide)
theorem quo_body {x : List Nat} (hx : x.length ≤ 1000000) {ls p hd : Nat} {fr : List Sre.Frame} (hp : p < x.length) (h34 : x[p]? = some 34) {mk : Array (Option Nat)} (hm : mk.size = 2) :
    Goes 1000000000 (sq x ls 29 p hd true mk (-1) (-1) #[] none fr 3 none) (UOut x ls (p + 1) (p + 1) #[] none fr 3 (qend (x.drop (p + 1)))) := by
  have s2 := to_mark0 (code := codeQuo) (x := x) (ls := ls) (wh := false) (mu := false) (s := 0) (pc := 31) (pos := p + 1) (hd := hd) (om := true) (mk := mk) (li := -1) (lp := #[]) (inn := none) (fr := fr) (wt := 3) (by decide) rfl rfl
  obtain ⟨y0, hy⟩ : ∃ y0, mk.setIfInBounds 0 (some (p + 1)) = #[some (p + 1), y0] := by
    obtain ⟨l⟩ := mk
    match l, hm with
    | [u, v], _ => exact ⟨v, rfl⟩
  rw [hy] at s2
  refine Goes.pre (k := 99999999) ((to_lit (m := sq x ls 29 p hd true mk (-1) (-1) #[] none fr 3 none) ⟨rfl, rfl, show 29 < codeQuo.size by decide⟩ rfl (c := 34) rfl hp (getD_some h34)).trans s2) ?_ (by decide)
  have s3 := to_run (code := codeQuo) (x := x) (ls := ls) (wh := false) (mu := false) (s := 0) (pc := 33) (pos := p + 1) (hd := hd) (om := true) (mk := #[some (p + 1), y0]) (lm := 0) (li := -1) (lp := #[]) (fr := fr) (wt := 3) (k := 12) (least := 0) acc_quo_body (by decide) rfl rfl rfl rfl (by simp only [lim]; omega) (by omega) (Nat.zero_le _) (by decide)
  have hj := span_le bodyP (x.drop (p + 1))
  rw [List.length_drop] at hj
  have hbody : ∀ q, q < span bodyP (x.drop (p + 1)) → bodyP (x.toArray.getD (p + 1 + q) 0) = true ∧ p + 1 + q < x.length := fun q hq => body_span hq
  rw [qend_span, List.drop_drop]
  generalize span bodyP (x.drop (p + 1)) = j at *
  refine Goes.pre (k := 99999998) s3 (Goes.pre (k := 99999997) (q_repeat (by decide)) ?_ (by decide)) (by decide)
  have u := until_ends (a := p + 1) (ls := ls) hx _ (p + 1 + j) y0 (-1) none (p + 1 + j) (clF (p + 1 + j) :: gb 33 (p + 1 + j) true j 0 (-1) :: fr) 5 (Nat.le_refl _) (by omega) (by decide) (fun q e => nomatch e) (by omega)
  cases hr : ut (x.drop (p + 1 + j)) with
  | some k =>
    rw [hr] at u
    refine u.bind (k := 2) (fun m' hm => ?_) (cap hx (by decide))
    cases (show YesSt x ls (p + 1) (p + 1 + j + k) _ _ m' from hm) with
    | mk pc pos lp inn =>
    obtain ⟨lp2, inn2, t6⟩ := q_cl_yes (x := x) (ls := ls) (pc := pc) (pos := pos) (q := p + 1 + j) (hd := p + 1 + j + k + 1) (om := true) (mk := #[some (p + 1), some (p + 1 + j + k)]) (lm := 1) (li := 1) (lp := lp) (inn := inn) (fr := gb 33 (p + 1 + j) true j 0 (-1) :: fr) (wt := 4)
    exact ⟨_, t6.trans (pop_yes (.inl rfl)), (YesSt.mk ..).to (show p + 1 + j + k = p + 1 + (k + j) by omega)⟩
  | none =>
    rw [hr] at u
    have hj2 : j ≤ 1000000 := Nat.le_trans hj (Nat.le_trans (Nat.sub_le _ _) hx)
    refine u.bind (k := 10 * j + 2) (fun m' hm => ?_) (cap hx (Nat.le_trans (Nat.add_le_add_right (Nat.mul_le_mul_left 10 hj2) 2) (by decide)))
    cases hm
    exact Goes.pre (k := 10 * j + 1) q_cl_no (unwindB (by decide) j hbody (.mk ..)) (Nat.le_of_eq (Nat.add_comm 1 _))

theorem quo_hit {x : List Nat} (hx : x.length ≤ 1000000) {i i2 k : Nat} (hi : span sp x = i) (h61 : x[i]? = some 61) (hi2 : span sp (x.drop (i + 1)) = i2) (h34 : x[i + 1 + i2]? = some 34) (hk : qend (x.drop (i + 1 + i2 + 1)) = some k) :
    EndsAt (Sre.forSearch codeQuo x.toArray 1 0 x.length false) (Hit1 0 (i + 1 + i2 + 1 + k + 1) (i + 1 + i2 + 1) (i + 1 + i2 + 1 + k)) := by
  have l1 := lt_some h34
  have l3 : 3 ≤ x.length := by
    rcases Nat.lt_or_ge (i + 1 + i2 + 1) x.length with q | q
    · omega
    · rw [List.drop_eq_nil_of_le q] at hk; cases hk
  have s0 := quo_start l3
  have s1 := pre_hit (ls := x.length - 2) pre_quo (by simp only [lim]; omega) hi h61 hi2
  have u := quo_body hx (ls := x.length - 2) (p := i + 1 + i2) (hd := i + 1 + i2) (fr := [gb 19 (i + 1 + i2) true i2 (-1) (-1), gb 7 i true i (-1) (-1), ns 5 0 true]) l1 h34 mk2_size
  rw [hk] at u
  obtain ⟨m', t5, hm⟩ := u
  cases (show YesSt x (x.length - 2) (i + 1 + i2 + 1) (i + 1 + i2 + 1 + k) _ _ m' from hm) with
  | mk pc' pos' lp' inn' =>
  have s8 := pop_yes (code := codeQuo) (x := x) (ls := x.length - 2) (wh := false) (mu := false) (s := 0) (pc := pc') (pos := pos') (hd := i + 1 + i2 + 1 + k + 1) (om := true) (mk := #[some (i + 1 + i2 + 1), some (i + 1 + i2 + 1 + k)]) (lm := 1) (li := 1) (lp := lp') (inn := inn') (f := gb 19 (i + 1 + i2) true i2 (-1) (-1)) (fr := [gb 7 i true i (-1) (-1), ns 5 0 true]) (wt := 3) (.inl rfl)
  have s8' := pop_yes (code := codeQuo) (x := x) (ls := x.length - 2) (wh := false) (mu := false) (s := 0) (pc := 19) (pos := i + 1 + i2) (hd := i + 1 + i2 + 1 + k + 1) (om := true) (mk := #[some (i + 1 + i2 + 1), some (i + 1 + i2 + 1 + k)]) (lm := 1) (li := 1) (lp := lp') (inn := inn') (f := gb 7 i true i (-1) (-1)) (fr := [ns 5 0 true]) (wt := 2) (.inl rfl)
  have s9 := pop_yes (code := codeQuo) (x := x) (ls := x.length - 2) (wh := false) (mu := false) (s := 0) (pc := 7) (pos := i) (hd := i + 1 + i2 + 1 + k + 1) (om := true) (mk := #[some (i + 1 + i2 + 1), some (i + 1 + i2 + 1 + k)]) (lm := 1) (li := 1) (lp := lp') (inn := inn') (f := ns 5 0 true) (fr := []) (wt := 1) (.inr rfl)
  have s10 := To.finish (m := st codeQuo x (x.length - 2) false false 0 5 0 (i + 1 + i2 + 1 + k + 1) true #[some (i + 1 + i2 + 1), some (i + 1 + i2 + 1 + k)] 1 1 lp' inn' [] 0 (some true)) rfl rfl rfl
  exact EndsAt.of ((((((s0.trans s1).trans t5).trans s8).trans s8').trans s9).trans s10) (by omega) rfl ⟨rfl, rfl, rfl, rfl, rfl⟩

theorem quo_miss {x : List Nat} (hx : x.length ≤ 1000000) {i : Nat} (hi : span sp x = i) (h : x[i]? = some 61 → x[i + 1 + span sp (x.drop (i + 1))]? = some 34 → qend (x.drop (i + 1 + span sp (x.drop (i + 1)) + 1)) = none) :
    EndsAt (Sre.forSearch codeQuo x.toArray 1 0 x.length false) Miss := by
  by_cases l3 : 3 ≤ x.length
  · have s0 := quo_start l3
    by_cases h61 : x[i]? = some 61
    · have l61 := lt_some h61
      have s1 := pre_hit (ls := x.length - 2) pre_quo (by simp only [lim]; omega) hi h61 rfl
      have h := h h61
      have l2 := span_le sp (x.drop (i + 1))
      rw [List.length_drop] at l2
      have hlim : x.length ≤ lim := by simp only [lim]; omega
      generalize hi2 : span sp (x.drop (i + 1)) = i2 at *
      by_cases h34 : x[i + 1 + i2]? = some 34
      · have h := h h34
        have u := quo_body hx (ls := x.length - 2) (p := i + 1 + i2) (hd := i + 1 + i2) (fr := [gb 19 (i + 1 + i2) true i2 (-1) (-1), gb 7 i true i (-1) (-1), ns 5 0 true]) (lt_some h34) h34 mk2_size
        rw [h] at u
        obtain ⟨m', t5, hm⟩ := u
        cases hm with
        | mk pc' pos' hd' y' lm' li' =>
        exact Goes.miss (Goes.pre ((s0.trans s1).trans t5) (pre_miss2 (ls := x.length - 2) pre_quo (by omega) (by omega) hi l61 hi2 rfl rfl (.mk _ _ _ _ _ _ _ rfl)) (Nat.le_refl _)) (by omega)
      · have t5 := to_lit_no (m := sq x (x.length - 2) 29 (i + 1 + i2) (i + 1 + i2) true (Array.replicate (2 * 1) none) (-1) (-1) #[] none [gb 19 (i + 1 + i2) true i2 (-1) (-1), gb 7 i true i (-1) (-1), ns 5 0 true] 3 none) ⟨rfl, rfl, show 29 < codeQuo.size by decide⟩ rfl (c := 34) rfl (getD_ne h34)
        exact Goes.miss (Goes.pre ((s0.trans s1).trans t5) (pre_miss2 (ls := x.length - 2) pre_quo (by omega) (by omega) hi l61 hi2 rfl rfl (.mk _ _ _ _ _ _ _ mk2_size)) (Nat.le_refl _)) (by omega)
    · exact EndsAt.prepend (b := 0) s0 (pre_miss1 pre_quo (by simp only [lim]; omega) (by omega) (by omega) hi h61)
  · exact search_short codeQuo x 1 0 3 false rfl rfl rfl (by omega)
end Mine
end
section
open PySem PySem.W PyProof.Rows
namespace Mine
section
variable {x : List Nat}

noncomputable def EndsIn (n : Nat) (m : RM) (P : RM → Prop) : Prop := ∃ m', To n m m' ∧ m'.outcome.isSome = true ∧ P m'
theorem EndsIn.at_ {n : Nat} {m : RM} {P : RM → Prop} (h : EndsIn n m P) (hn : n ≤ 1152921504606846976) : EndsAt m P := let ⟨m', a, b, c⟩ := h; ⟨⟨n, m', a, hn, b, c⟩⟩
theorem EndsIn.after {a n k : Nat} {m m' : RM} {P : RM → Prop} (h : To a m m') (e : EndsIn n m' P) (hk : a + n ≤ k) : EndsIn k m P := let ⟨m'', x, y, z⟩ := e; ⟨m'', (h.trans x).mono hk, y, z⟩

theorem noFirst_esc (m : RM) (h : m.code = codeEsc) : m.hasFirstSet = false := by unfold Sre.M.hasFirstSet; rw [h]; rfl

theorem esc_start {s : Nat} {mu : Bool} (hl : s ≤ x.length) (hx : 2 ≤ x.length - s) :
    To 0 (Sre.forSearch codeEsc x.toArray 1 s x.length mu) (st codeEsc x x.length false mu s 9 s s true (Array.replicate (2 * 1) none) (-1) (-1) #[] none [ns 9 s true] 1 none) := by
  exact search_start codeEsc x 1 s 2 mu _ (sn := ({} : Sre.Seen).add 14) rfl hl hx

theorem esc_hit_at {s q : Nat} {mu o : Bool} {mk : Array (Option Nat)} (hm : mk.size = 2) (he : esc x q) :
    EndsIn 7 (st codeEsc x x.length false mu q 9 q q o mk (-1) (-1) #[] none [ns 9 q o] 1 none) (Hit1 q (q + 2) (q + 1) (q + 2)) := by
  refine Classical.byContradiction fun ng0 => ?_
  obtain ⟨h1, d, h2, h3⟩ := he
  have s1 := to_lit (m := st codeEsc x x.length false mu q 9 q q o mk (-1) (-1) #[] none [ns 9 q o] 1 none) ⟨rfl, rfl, show 9 < codeEsc.size by decide⟩ rfl (c := 92) rfl (lt_some h1) (getD_some h1)
  have s2 := to_mark0 (code := codeEsc) (x := x) (ls := x.length) (wh := false) (mu := mu) (s := q) (pc := 11) (pos := q + 1) (hd := q) (om := o) (mk := mk) (li := -1) (lp := #[]) (inn := none) (fr := [ns 9 q o]) (wt := 1) (by decide) rfl rfl
  have s3 := to_any (m := st codeEsc x x.length false mu q 13 (q + 1) q o (mk.setIfInBounds 0 (some (q + 1))) 0 (-1) #[] none [ns 9 q o] 1 none) ⟨rfl, rfl, show 13 < codeEsc.size by decide⟩ rfl (lt_some h2) (by rw [show x.toArray.getD (q + 1) 0 = d from getD_some h2]; exact h3)
  have s5 := to_mark1 (code := codeEsc) (x := x) (ls := x.length) (wh := false) (mu := mu) (s := q) (pc := 14) (pos := q + 2) (hd := q) (om := o) (mk := mk.setIfInBounds 0 (some (q + 1))) (li := -1) (lp := #[]) (inn := none) (fr := [ns 9 q o]) (wt := 1) (by decide) rfl rfl
  rw [marks_two hm] at s5
  have s6 := to_success (m := st codeEsc x x.length false mu q 16 (q + 2) q o #[some (q + 1), some (q + 2)] 1 1 #[] none [ns 9 q o] 1 none) ⟨rfl, rfl, show 16 < codeEsc.size by decide⟩ rfl (by simp)
  have s9 := pop_yes (code := codeEsc) (x := x) (ls := x.length) (wh := false) (mu := mu) (s := q) (pc := 16) (pos := q + 2) (hd := q + 2) (om := o) (mk := #[some (q + 1), some (q + 2)]) (lm := 1) (li := 1) (lp := #[]) (inn := none) (f := ns 9 q o) (fr := []) (wt := 1) (.inr rfl)
  have s10 := To.finish (m := st codeEsc x x.length false mu q 9 q (q + 2) o #[some (q + 1), some (q + 2)] 1 1 #[] none [] 0 (some true)) rfl rfl rfl
  refine ng0 ?_
  exact ⟨_, (((((s1.trans s2).trans s3).trans s5).trans s6).trans s9).trans s10, rfl, rfl, rfl, rfl, rfl, rfl⟩

theorem esc_no_at {s q : Nat} {mu o : Bool} {mk : Array (Option Nat)} (hm : mk.size = 2) (he : ¬ esc x q) :
    ∃ pc pos lm li mk', mk'.size = 2 ∧ To 3 (st codeEsc x x.length false mu q 9 q q o mk (-1) (-1) #[] none [ns 9 q o] 1 none) (st codeEsc x x.length false mu q pc pos q o mk' lm li #[] none [ns 9 q o] 1 (some false)) := by
  by_cases h1 : x[q]? = some 92
  · have s1 := to_lit (m := st codeEsc x x.length false mu q 9 q q o mk (-1) (-1) #[] none [ns 9 q o] 1 none) ⟨rfl, rfl, show 9 < codeEsc.size by decide⟩ rfl (c := 92) rfl (lt_some h1) (getD_some h1)
    have s2 := to_mark0 (code := codeEsc) (x := x) (ls := x.length) (wh := false) (mu := mu) (s := q) (pc := 11) (pos := q + 1) (hd := q) (om := o) (mk := mk) (li := -1) (lp := #[]) (inn := none) (fr := [ns 9 q o]) (wt := 1) (by decide) rfl rfl
    have s3 := to_any_no (m := st codeEsc x x.length false mu q 13 (q + 1) q o (mk.setIfInBounds 0 (some (q + 1))) 0 (-1) #[] none [ns 9 q o] 1 none) ⟨rfl, rfl, show 13 < codeEsc.size by decide⟩ rfl (fun hlt => by
      have hlt' : q + 1 < x.length := hlt
      have e : x[q + 1]? = some x[q + 1] := List.getElem?_eq_getElem hlt'
      rcases Nat.decEq x[q + 1] 10 with z | z
      · exact absurd ⟨h1, _, e, z⟩ he
      · exact (getD_some e).trans z)
    exact ⟨_, _, _, _, _, by simpa using hm, (s1.trans s2).trans s3⟩
  · exact ⟨_, _, _, _, _, hm, (to_lit_no (m := st codeEsc x x.length false mu q 9 q q o mk (-1) (-1) #[] none [ns 9 q o] 1 none) ⟨rfl, rfl, show 9 < codeEsc.size by decide⟩ rfl (c := 92) rfl (getD_ne h1)).mono (by omega)⟩

theorem esc_from_hit : ∀ (d : Nat) {q : Nat} {mu o : Bool} {mk : Array (Option Nat)}, mk.size = 2 → (∀ r, q ≤ r → r < q + d → ¬ esc x r) → esc x (q + d) →
    EndsIn (4 * d + 7) (st codeEsc x x.length false mu q 9 q q o mk (-1) (-1) #[] none [ns 9 q o] 1 none) (Hit1 (q + d) (q + d + 2) (q + d + 1) (q + d + 2))
  | 0, q, mu, o, mk, hm, hn, he => esc_hit_at (s := 0) hm he
  | d + 1, q, mu, o, mk, hm, hn, he => by
    obtain ⟨pc, pos, lm, li, mk', hm', t⟩ := esc_no_at (s := 0) (mu := mu) (o := o) hm (hn q (Nat.le_refl _) (by omega))
    have t2 := next_more (code := codeEsc) (x := x) (ls := x.length) (wh := false) (mu := mu) (s := q) (pc := pc) (pos := pos) (hd := q) (om := o) (mk := mk') (lm := lm) (li := li) (lp := #[]) (inn := none) (p := 9) (q := q) (o := o) (by have := lt_some he.1; omega) noFirst_esc
    have e : q + (d + 1) = (q + 1) + d := by omega
    rw [e] at he ⊢
    exact EndsIn.after (t.trans t2) (esc_from_hit d (q := q + 1) (mu := false) (o := false) hm' (fun r h1 h2 => hn r (by omega) (by omega)) he) (by omega)
theorem esc_from_miss : ∀ (d : Nat) {q : Nat} {mu o : Bool} {mk : Array (Option Nat)}, mk.size = 2 → (∀ r, q ≤ r → ¬ esc x r) → x.length - q = d →
    EndsIn (4 * d + 5) (st codeEsc x x.length false mu q 9 q q o mk (-1) (-1) #[] none [ns 9 q o] 1 none) Miss
  | 0, q, mu, o, mk, hm, hn, hd => by
    refine Classical.byContradiction fun ng0 => ?_
    obtain ⟨pc, pos, lm, li, mk', hm', t⟩ := esc_no_at (s := 0) (mu := mu) (o := o) hm (hn q (Nat.le_refl _))
    have t2 := next_no (code := codeEsc) (x := x) (ls := x.length) (wh := false) (mu := mu) (s := q) (pc := pc) (pos := pos) (hd := q) (om := o) (mk := mk') (lm := lm) (li := li) (lp := #[]) (inn := none) (wt := 1) (p := 9) (q := q) (o := o) (by omega)
    refine ng0 ?_
    exact ⟨_, ((t.trans t2).trans (To.finish rfl rfl rfl)).mono (by omega), rfl, rfl⟩
  | d + 1, q, mu, o, mk, hm, hn, hd => by
    refine Classical.byContradiction fun ng0 => ?_
    obtain ⟨pc, pos, lm, li, mk', hm', t⟩ := esc_no_at (s := 0) (mu := mu) (o := o) hm (hn q (Nat.le_refl _))
    have t2 := next_more (code := codeEsc) (x := x) (ls := x.length) (wh := false) (mu := mu) (s := q) (pc := pc) (pos := pos) (hd := q) (om := o) (mk := mk') (lm := lm) (li := li) (lp := #[]) (inn := none) (p := 9) (q := q) (o := o) (by omega) noFirst_esc
    refine ng0 ?_
    exact EndsIn.after (t.trans t2) (esc_from_miss d (q := q + 1) (mu := false) (o := false) hm' (fun r h1 => hn r (by omega)) (by omega)) (by omega)

theorem esc_hit {s d : Nat} {mu : Bool} (hx : x.length ≤ lim) (hn : ∀ r, s ≤ r → r < s + d → ¬ esc x r) (he : esc x (s + d)) :
    EndsAt (Sre.forSearch codeEsc x.toArray 1 s x.length mu) (Hit1 (s + d) (s + d + 2) (s + d + 1) (s + d + 2)) := by
  refine Classical.byContradiction fun ng0 => ?_
  obtain ⟨h1, c, h2, h3⟩ := id he
  have := lt_some h2
  refine ng0 ?_
  exact (EndsIn.after (esc_start (x := x) (s := s) (mu := mu) (by omega) (by omega)) (esc_from_hit d mk2_size hn he) (Nat.le_refl _)).at_ (by simp only [lim] at hx; omega)
theorem esc_miss {s : Nat} {mu : Bool} (hx : x.length ≤ lim) (hn : ∀ r, s ≤ r → ¬ esc x r) :
    EndsAt (Sre.forSearch codeEsc x.toArray 1 s x.length mu) Miss := by
  by_cases h : 2 ≤ x.length - s
  · exact (EndsIn.after (esc_start (x := x) (s := s) (mu := mu) (by omega) (by omega)) (esc_from_miss _ mk2_size hn rfl) (Nat.le_refl _)).at_ (by simp only [lim] at hx; omega)
  · exact search_short codeEsc x 1 s 2 mu rfl rfl rfl (by omega)

/-! the marks and backslashes that are written with a backslash ahead -/
noncomputable def oddP (c : Nat) : Bool := c == 34 || c == 92
theorem odd_ok {r : Res} {c : Nat} (h : Ok r (if c == 34 then true else if c == 92 then true else false)) : Ok r (oddP c) := h.to (by unfold oddP; cases (c == 34) <;> cases (c == 92) <;> rfl)
theorem set_jesc (c : Nat) (sn : Sre.Seen) : Ok (Sre.inSet codeJEsc c codeJEsc.size 5 true sn) (oddP c) := odd_ok (Ok.ite (Ok.ite Ok.ok))
theorem set_jesc2 (c : Nat) (sn : Sre.Seen) : Ok (Sre.inSet codeJEsc c codeJEsc.size 14 true sn) (oddP c) := odd_ok (Ok.ite (Ok.ite Ok.ok))

theorem admitted_hit {m : RM} (hc : m.code = codeJEsc) (ht : m.text = x.toArray) (hl : m.lim = x.length) : ∀ (d n s : Nat) (sn : Sre.Seen), d < n → (∀ r, s ≤ r → r < s + d → oddP (x.toArray.getD r 0) = false) → oddP (x.toArray.getD (s + d) 0) = true → s + d < x.length →
    ∃ sn', Sre.M.admitted m n s sn = .ok (some (s + d), sn')
  | d, 0, s, sn, h, _, _, _ => by omega
  | 0, n + 1, s, sn, h, hn, hd, hlt => by
    unfold Sre.M.admitted
    have e1 : ¬ s ≥ m.lim := by rw [hl]; omega
    rw [if_neg e1, hc, ht]
    obtain ⟨sn', e⟩ := set_jesc (x.toArray.getD s 0) sn
    rw [Nat.add_zero] at hd
    rw [e, hd]
    exact ⟨sn', rfl⟩
  | d + 1, n + 1, s, sn, h, hn, hd, hlt => by
    unfold Sre.M.admitted
    have e1 : ¬ s ≥ m.lim := by rw [hl]; omega
    rw [if_neg e1, hc, ht]
    obtain ⟨sn', e⟩ := set_jesc (x.toArray.getD s 0) sn
    rw [e, hn s (Nat.le_refl _) (by omega)]
    have e2 : s + (d + 1) = (s + 1) + d := by omega
    rw [e2] at hd ⊢
    obtain ⟨sn'', e3⟩ := admitted_hit hc ht hl d n (s + 1) sn' (by omega) (fun r h1 h2 => hn r (by omega) (by omega)) hd (by omega)
    exact ⟨sn'', e3⟩
theorem admitted_miss {m : RM} (hc : m.code = codeJEsc) (ht : m.text = x.toArray) (hl : m.lim = x.length) : ∀ (n s : Nat) (sn : Sre.Seen), (∀ r, s ≤ r → r < x.length → oddP (x.toArray.getD r 0) = false) →
    ∃ sn', Sre.M.admitted m n s sn = .ok (none, sn')
  | 0, s, sn, hn => ⟨sn, rfl⟩
  | n + 1, s, sn, hn => by
    unfold Sre.M.admitted
    by_cases e1 : s ≥ m.lim
    · rw [if_pos e1]; exact ⟨sn, rfl⟩
    · rw [if_neg e1, hc, ht]
      rw [hl] at e1
      obtain ⟨sn', e⟩ := set_jesc (x.toArray.getD s 0) sn
      rw [e, hn s (Nat.le_refl _) (by omega)]
      obtain ⟨sn'', e3⟩ := admitted_miss hc ht hl n (s + 1) sn' (fun r h1 h2 => hn r (by omega) h2)
      exact ⟨sn'', e3⟩

noncomputable def jm (x : List Nat) (s : Nat) (mu : Bool) : RM := (st codeJEsc x x.length false mu s 10 s s true (Array.replicate (2 * 1) none) (-1) (-1) #[] none [] 0 none).sn (({} : Sre.Seen).add 14)
noncomputable def jm0 (x : List Nat) (s : Nat) (mu : Bool) : RM := { jm x s mu with lastStart := 0 }
noncomputable def jgo (m : RM) : Except String (Option Nat × Sre.Seen) → RM
  | .ok (some s, seen) => ({ m with mustAdvance := false, seen := seen } : RM).attemptAt s true
  | .ok (none, seen) => (m.sn seen).say false
  | .error why => m.stick why
theorem jesc_def {s : Nat} {mu : Bool} : Sre.forSearch codeJEsc x.toArray 1 s x.length mu = if (decide (s > x.length) || decide (x.length - s < 1)) = true then (jm0 x s mu).say false else jgo (jm x s mu) (Sre.M.admitted (jm x s mu) (x.length + 1 - s) s (({} : Sre.Seen).add 14)) := rfl
theorem jesc_hit {s d : Nat} {mu : Bool} (hn : ∀ r, s ≤ r → r < s + d → oddP (x.toArray.getD r 0) = false) (hd : oddP (x.toArray.getD (s + d) 0) = true) (hlt : s + d < x.length) :
    EndsAt (Sre.forSearch codeJEsc x.toArray 1 s x.length mu) (Hit1 (s + d) (s + d + 1) (s + d) (s + d + 1)) := by
  have s0 : To 0 (Sre.forSearch codeJEsc x.toArray 1 s x.length mu) (st codeJEsc x x.length false false (s + d) 10 (s + d) (s + d) true (Array.replicate (2 * 1) none) (-1) (-1) #[] none [ns 10 (s + d) true] 1 none) := by
    obtain ⟨sn', e⟩ := admitted_hit (m := jm x s mu) (x := x) rfl rfl rfl d (x.length + 1 - s) s (({} : Sre.Seen).add 14) (by omega) hn hd hlt
    exact search_start codeJEsc x 1 s 1 mu _ (D := (jm0 x s mu).say false) (sn := sn') (jesc_def.trans (by rw [e]; rfl)) (by omega) (by omega)
  have s2 := to_mark0 (code := codeJEsc) (x := x) (ls := x.length) (wh := false) (mu := false) (s := s + d) (pc := 10) (pos := s + d) (hd := s + d) (om := true) (mk := Array.replicate (2 * 1) none) (li := -1) (lp := #[]) (inn := none) (fr := [ns 10 (s + d) true]) (wt := 1) (by decide) rfl rfl
  have s3 := to_in (m := st codeJEsc x x.length false false (s + d) 12 (s + d) (s + d) true ((Array.replicate (2 * 1) none).setIfInBounds 0 (some (s + d))) 0 (-1) #[] none [ns 10 (s + d) true] 1 none) ⟨rfl, rfl, show 12 < codeJEsc.size by decide⟩ rfl (k := 6) rfl hlt (by
    have := set_jesc2 (x.toArray.getD (s + d) 0)
    rw [hd] at this; exact this)
  have s5 := to_mark1 (code := codeJEsc) (x := x) (ls := x.length) (wh := false) (mu := false) (s := s + d) (pc := 19) (pos := s + d + 1) (hd := s + d) (om := true) (mk := (Array.replicate (2 * 1) none).setIfInBounds 0 (some (s + d))) (li := -1) (lp := #[]) (inn := none) (fr := [ns 10 (s + d) true]) (wt := 1) (by decide) rfl rfl
  rw [marks_two mk2_size] at s5
  have s6 := to_success (m := st codeJEsc x x.length false false (s + d) 21 (s + d + 1) (s + d) true #[some (s + d), some (s + d + 1)] 1 1 #[] none [ns 10 (s + d) true] 1 none) ⟨rfl, rfl, show 21 < codeJEsc.size by decide⟩ rfl rfl
  have s9 := pop_yes (code := codeJEsc) (x := x) (ls := x.length) (wh := false) (mu := false) (s := s + d) (pc := 21) (pos := s + d + 1) (hd := s + d + 1) (om := true) (mk := #[some (s + d), some (s + d + 1)]) (lm := 1) (li := 1) (lp := #[]) (inn := none) (f := ns 10 (s + d) true) (fr := []) (wt := 1) (.inr rfl)
  have s10 := To.finish (m := st codeJEsc x x.length false false (s + d) 10 (s + d) (s + d + 1) true #[some (s + d), some (s + d + 1)] 1 1 #[] none [] 0 (some true)) rfl rfl rfl
  exact EndsAt.of ((((((s0.trans s2).trans s3).trans s5).trans s6).trans s9).trans s10) (by omega) rfl ⟨rfl, rfl, rfl, rfl, rfl⟩

theorem jesc_miss {s : Nat} {mu : Bool} (hn : ∀ r, s ≤ r → r < x.length → oddP (x.toArray.getD r 0) = false) :
    EndsAt (Sre.forSearch codeJEsc x.toArray 1 s x.length mu) Miss := by
  by_cases hs : 1 ≤ x.length - s
  · obtain ⟨sn', e⟩ := admitted_miss (m := jm x s mu) (x := x) rfl rfl rfl (x.length + 1 - s) s (({} : Sre.Seen).add 14) hn
    refine miss_now ⟨(jm x s mu).sn sn', ?_, rfl, rfl⟩
    rw [jesc_def, e, decide_eq_false (by omega), decide_eq_false (Nat.not_lt.mpr hs)]
    rfl
  · exact search_short codeJEsc x 1 s 1 mu rfl rfl rfl (by omega)
end
end Mine
end
section
open PySem PySem.W PyProof.Rows
namespace Mine
open Builtin.Re
variable {C : Mod} {A : Around} {g : Frz} {s : Shared} {E : Value → Shared → Prop}

theorem drive_wp {Q : RM → Shared → Prop} : ∀ (n b : Nat) (m : RM), (Sre.M.runFor b m).outcome.isSome = true → b < 4 * n → Q (Sre.M.runFor b m) s → wpAny C.M A (reDrive n m) Q E s
  | 0, b, m, h, hb, q => by omega
  | n + 1, b, m, h, hb, q => by
    unfold reDrive
    show wpAny C.M A (if (Sre.M.runFor 4 m).outcome.isSome = true then pure (Sre.M.runFor 4 m) else do rule "sre.turn"; reDrive n (Sre.M.runFor 4 m)) Q E s
    by_cases h4 : (Sre.M.runFor 4 m).outcome.isSome = true
    · rw [if_pos h4]
      have e : Sre.M.runFor 4 m = Sre.M.runFor b m := by
        rcases Nat.le_total b 4 with z | z
        · rw [show 4 = b + (4 - b) by omega, runFor_add, runFor_done h]
        · rw [show b = 4 + (b - 4) by omega, runFor_add, runFor_done h4]
      rw [e]; exact wpAny_pure q
    · rw [if_neg h4]
      have hb4 : 4 < b := by
        rcases Nat.lt_or_ge 4 b with z | z
        · exact z
        · exfalso; apply h4
          rw [show 4 = b + (4 - b) by omega, runFor_add, runFor_done h]; exact h
      have e : Sre.M.runFor b m = Sre.M.runFor (b - 4) (Sre.M.runFor 4 m) := by
        rw [← runFor_add]; congr 1; omega
      rw [e] at h q
      exact wpAny_bind (wpAny_rule (drive_wp n (b - 4) _ h (by omega) q))

theorem rules_wp {f : Nat → Bool} {t : Nat → String} {Q : PUnit → Shared → Prop} (q : Q ⟨⟩ s) : ∀ l : List Nat, wpAny C.M A (forIn l PUnit.unit fun i _ => if f i = true then (do rule (t i); pure (ForInStep.yield PUnit.unit)) else pure (ForInStep.yield PUnit.unit)) Q E s
  | [] => by rw [List.forIn_nil]; exact wpAny_pure q
  | i :: r => by
    rw [List.forIn_cons]
    split
    · exact wpAny_bind (wpAny_bind (wpAny_rule (wpAny_pure (rules_wp q r))))
    · exact wpAny_bind (wpAny_pure (rules_wp q r))

theorem matched_wp {mm : RM} {Q : Option RM → Shared → Prop} (h : mm.outcome = some .matched) (q : Q (some mm) s) :
    wpAny C.M A (match mm.outcome with | some .matched => pure (some mm) | some .failed => pure none | some (.stuck why) => unsupported s!"_sre:{why}" | none => unsupported "internal:sre:no-outcome") Q E s := by
  rw [h]; exact wpAny_pure q
theorem run_hit {m : RM} {P : RM → Prop} (h : EndsAt m P) (hs : ∀ m sn, P m → P { m with seen := sn }) (ho : ∀ m, P m → m.outcome = some .matched) {Q : Option RM → Shared → Prop}
    (q : ∀ m', P m' → Q (some m') s) : wpAny C.M A (reRunToEnd m) Q E s := by
  refine Classical.byContradiction fun ng0 => ?_
  obtain ⟨⟨b, m', ht, hb, hoo, hp⟩⟩ := h
  obtain ⟨n, hn, sn', e⟩ := ht m.seen
  have e' : Sre.M.runFor n m = { m' with seen := sn' } := e
  refine ng0 ?_
  unfold reRunToEnd
  refine wpAny_bind (drive_wp (2 ^ 64) n m (by rw [e']; exact hoo) (by omega) ?_)
  rw [e']
  refine wpAny_bind (rules_wp (f := fun i => sn'.has i) (t := fun i => Sre.names.getD i "") ?_ _)
  have h1 : ({ m' with seen := sn' } : RM).outcome = some .matched := ho _ (hs _ _ hp)
  exact matched_wp h1 (q _ (hs _ _ hp))
theorem run_miss {m : RM} (h : EndsAt m Miss) {Q : Option RM → Shared → Prop} (q : Q none s) : wpAny C.M A (reRunToEnd m) Q E s := by
  refine Classical.byContradiction fun ng0 => ?_
  obtain ⟨⟨b, m', ht, hb, hoo, hp⟩⟩ := h
  obtain ⟨n, hn, sn', e⟩ := ht m.seen
  have e' : Sre.M.runFor n m = { m' with seen := sn' } := e
  refine ng0 ?_
  unfold reRunToEnd
  refine wpAny_bind (drive_wp (2 ^ 64) n m (by rw [e']; exact hoo) (by omega) ?_)
  rw [e']
  refine wpAny_bind (rules_wp (f := fun i => sn'.has i) (t := fun i => Sre.names.getD i "") ?_ _)
  have h1 : m'.outcome = some .failed := hp
  show wpAny C.M A (match m'.outcome with | some .matched => pure (some { m' with seen := sn' }) | some .failed => pure none | some (.stuck why) => unsupported s!"_sre:{why}" | none => unsupported "internal:sre:no-outcome") Q E s
  rw [h1]
  exact wpAny_pure q

inductive PatAt (g : Frz) (a : Addr) (code : Array Nat) (groups : Nat) : Prop
  | mk (p fl : Value) (ct : Addr) (cn : Nat) (_ : g a = some { cls := .type "re.Pattern", data := .fields #[p, fl, .int groups 0, .none, .none, .ref ct, .int 0 0] }) (_ : g ct = some (tupObj (code.toList.map fun (c : Nat) => rawInt (c : Int)) cn))

theorem PatAt.mono {g' : Frz} {a : Addr} {code : Array Nat} {groups : Nat} (h : PatAt g a code groups) (hg : g.le g') : PatAt g' a code groups := let ⟨p, fl, ct, cn, h1, h2⟩ := h; ⟨p, fl, ct, cn, hg _ _ h1, hg _ _ h2⟩

theorem raw_code (code : Array Nat) : ((((code.toList.map fun (c : Nat) => rawInt (c : Int)).toArray).map reRawOf).map (·.toNat)) = code := by
  simp only [List.map_toArray, List.map_map]
  have : ((fun x : Int => x.toNat) ∘ reRawOf ∘ fun c : Nat => rawInt (c : Int)) = id := by funext c; rfl
  rw [this]; simp

theorem rawItems_wp {ct : Addr} {vs : List Value} {n : Nat} {Q : Array Int → Shared → Prop} (h : s.heap.get? ct = some (tupObj vs n)) (q : Q (vs.toArray.map reRawOf) s) : wpAny C.M A (reRawItems (.ref ct)) Q E s := by
  unfold reRawItems
  exact wpAny_bind (wpAny_seqItems h rfl (wpAny_pure q))

theorem textOf_wp {x : Str} {t : Tok} {Q : Array Nat × Nat → Shared → Prop} (q : Q (x.cps, 0) s) : wpAny C.M A (reTextOf (.str x t)) Q E s := by
  unfold reTextOf
  exact wpAny_bind (wpAny_pure (wpAny_pure q))

theorem target_wp {id f : String} {a : Addr} {code : Array Nat} {groups : Nat} {x : List Nat} {t : Tok} (P : PatAt g a code groups) (G : Good C g s) (hx : x.length ≤ lim) {Q : ReTarget → Shared → Prop}
    (q : Q { pattern := .ref a, string := .str ⟨x.toArray⟩ t, code := code, text := x.toArray, kind := 0, groups := groups, pos := 0, lim := x.length } s) :
    wpAny C.M A (reTarget id f ⟨[.ref a, .str ⟨x.toArray⟩ t], []⟩) Q E s := by
  refine Classical.byContradiction fun ng0 => ?_
  obtain ⟨p, fl, ct, cn, h1, h2⟩ := P
  refine ng0 ?_
  unfold reTarget
  refine wpAny_bind (wpAny_of_eq (a := [some (.str ⟨x.toArray⟩ t), none, none]) rfl ?_)
  refine wpAny_bind (wpAny_pure (wpAny_bind (wpAny_pure (wpAny_bind (wpAny_fieldsOf (G.stays _ _ h1) rfl ?_)))))
  refine wpAny_bind (textOf_wp ?_)
  show wpAny C.M A (do
    reNoCollectionInside (Value.str ⟨x.toArray⟩ t) 0
    let l ← reRawItems (.ref ct)
    pure { pattern := Value.ref a, string := Value.str ⟨x.toArray⟩ t, code := l.map (·.toNat), text := x.toArray, kind := 0, groups := ((groups : Int)).toNat, pos := min (0 : Int).toNat x.toArray.size, lim := min ((2 : Int) ^ 63 - 1).toNat x.toArray.size }) Q E s
  refine wpAny_bind (wpAny_pure (wpAny_bind (rawItems_wp (G.stays _ _ h2) (wpAny_pure ?_))))
  rw [raw_code]
  have e1 : min ((2 : Int) ^ 63 - 1).toNat x.toArray.size = x.length := by simp only [lim] at hx; simp; omega
  have e2 : min (0 : Int).toNat x.toArray.size = 0 := by simp
  rw [e1, e2]
  exact q

theorem newMatchTail_wp {g : Frz} {pat : Value} {x : List Nat} {t : Tok} {p1 p2 p3 : Value} {sp : List Int} (G : Good C g s) {Q : Value → Shared → Prop}
    (q : ∀ v g' s', Step C g s g' s' → R g' (.mat x sp) v → Q v s') (hs : (sp.map rawInt).length ≤ sizeLine := by rw [sizeLine_is]; simp) : wpAny C.M A (do
      let tup ← newTuple (sp.map rawInt)
      newFields "re.Match" [Value.str ⟨x.toArray⟩ t, pat, p1, p2, p3, tup]) Q E s := by
  refine wpAny_bind (wpAny_newTuple ?_ hs)
  have st1 := Step.push G (tupObj (sp.map rawInt) 0) rfl s.toks
  have st2 := Step.push (s := { s with heap := s.heap.push (tupObj (sp.map rawInt) 0) }) st1.good { cls := .type "re.Match", data := .fields #[Value.str ⟨x.toArray⟩ t, pat, p1, p2, p3, .ref s.heap.objs.size] } rfl s.toks
  refine wpAny_newObj_type (q _ _ _ (st1.trans st2) ⟨_, t, pat, p1, p2, p3, s.heap.objs.size, 0, _, rfl, Frz.put_self .., ?_, rfl⟩) (by size_fits)
  exact Frz.le_put st1.good.new _ _ (Frz.put_self ..)

theorem newMatch1_wp {g : Frz} {pat : Value} {x : List Nat} {t : Tok} {pos lm' a b st en : Nat} {m : RM} (G : Good C g s) (h : Hit1 st en a b m) (hab : a ≤ b) {Q : Value → Shared → Prop}
    (q : ∀ v g' s', Step C g s g' s' → R g' (.mat x [st, en, a, b]) v → Q v s') : wpAny C.M A (reNewMatch pat (.str ⟨x.toArray⟩ t) 1 pos lm' m) Q E s := by
  refine Classical.byContradiction fun ng0 => ?_
  obtain ⟨h1, h2, h3, h4, h5⟩ := h
  refine ng0 ?_
  unfold reNewMatch
  rw [h4, h5, h2, h3]
  show wpAny C.M A (if _ then _ else (do
    let tup ← newTuple [rawInt st, rawInt en, rawInt a, rawInt b]
    newFields "re.Match" [Value.str ⟨x.toArray⟩ t, pat, rawInt pos, rawInt lm', rawInt m.lastindex, tup])) Q E s
  rw [if_neg (fun hh => by
    have hh' : (decide (((2 * 0 + 1 : Nat) : Int) ≤ (1 : Int)) && decide (b < a) || false) = true := hh
    simp at hh'; omega)]
  exact newMatchTail_wp G q

theorem newMatch0_wp {g : Frz} {pat : Value} {x : List Nat} {t : Tok} {pos lm' st en : Nat} {m : RM} (G : Good C g s) (h : Hit0 st en m) {Q : Value → Shared → Prop}
    (q : ∀ v g' s', Step C g s g' s' → R g' (.mat x [st, en]) v → Q v s') : wpAny C.M A (reNewMatch pat (.str ⟨x.toArray⟩ t) 0 pos lm' m) Q E s := by
  refine Classical.byContradiction fun ng0 => ?_
  obtain ⟨h1, h2, h3⟩ := h
  refine ng0 ?_
  unfold reNewMatch
  rw [h2, h3]
  show wpAny C.M A (do
    let tup ← newTuple [rawInt st, rawInt en]
    newFields "re.Match" [Value.str ⟨x.toArray⟩ t, pat, rawInt pos, rawInt lm', rawInt m.lastindex, tup]) Q E s
  exact newMatchTail_wp (sp := [st, en]) G q

section facts
set_option maxRecDepth 100000
theorem plainAttrs_pat : PlainAttrs "re.Pattern" :=
  ⟨⟨"object.__getattribute__", by rw [typeLookup_type, builtinLookup_eq_fast]; kernel_rfl, by decide +kernel⟩, by rw [typeLookup_type, builtinLookup_eq_fast]; kernel_rfl⟩
theorem slot_pat_search : PySem.Slot "re.Pattern" "search" "re.Pattern.search" :=
  .of (owner := "re.Pattern") (n := "search") (by rw [typeLookup_type, builtinLookup_eq_fast]; kernel_rfl) (by decide +kernel) (by decide +kernel) (by decide +kernel)
    (by first | exact .inl (by decide +kernel) | exact .inr (by decide +kernel)) (by rw [isSubtype_type]; kernel_rfl)
theorem type_pat_search : typeOf (.builtin "re.Pattern.search") = pure (.type "method_descriptor") := by show builtinType _ = _; rw [builtinType_eq_fast]; kernel_rfl
theorem entry_pat_search : entryFor table "re.Pattern.search" = some Builtin.«re.Pattern.search» := entryFor_of_tree (by kernel_rfl)
theorem args_pat_search (a b : Value) : argsOk "re.Pattern.search" ⟨[a, b], []⟩ := by unfold argsOk; kernel_rfl
theorem slot_pat_fullmatch : PySem.Slot "re.Pattern" "fullmatch" "re.Pattern.fullmatch" :=
  .of (owner := "re.Pattern") (n := "fullmatch") (by rw [typeLookup_type, builtinLookup_eq_fast]; kernel_rfl) (by decide +kernel) (by decide +kernel) (by decide +kernel)
    (by first | exact .inl (by decide +kernel) | exact .inr (by decide +kernel)) (by rw [isSubtype_type]; kernel_rfl)
theorem type_pat_fullmatch : typeOf (.builtin "re.Pattern.fullmatch") = pure (.type "method_descriptor") := by show builtinType _ = _; rw [builtinType_eq_fast]; kernel_rfl
theorem entry_pat_fullmatch : entryFor table "re.Pattern.fullmatch" = some Builtin.«re.Pattern.fullmatch» := entryFor_of_tree (by kernel_rfl)
theorem args_pat_fullmatch (a b : Value) : argsOk "re.Pattern.fullmatch" ⟨[a, b], []⟩ := by unfold argsOk; kernel_rfl
theorem slot_pat_sub : PySem.Slot "re.Pattern" "sub" "re.Pattern.sub" :=
  .of (owner := "re.Pattern") (n := "sub") (by rw [typeLookup_type, builtinLookup_eq_fast]; kernel_rfl) (by decide +kernel) (by decide +kernel) (by decide +kernel)
    (by first | exact .inl (by decide +kernel) | exact .inr (by decide +kernel)) (by rw [isSubtype_type]; kernel_rfl)
theorem type_pat_sub : typeOf (.builtin "re.Pattern.sub") = pure (.type "method_descriptor") := by show builtinType _ = _; rw [builtinType_eq_fast]; kernel_rfl
theorem entry_pat_sub : entryFor table "re.Pattern.sub" = some Builtin.«re.Pattern.sub» := entryFor_of_tree (by kernel_rfl)
theorem args_pat_sub (a b c : Value) : argsOk "re.Pattern.sub" ⟨[a, b, c], []⟩ := by unfold argsOk; kernel_rfl
theorem slot_pat_subn : PySem.Slot "re.Pattern" "subn" "re.Pattern.subn" :=
  .of (owner := "re.Pattern") (n := "subn") (by rw [typeLookup_type, builtinLookup_eq_fast]; kernel_rfl) (by decide +kernel) (by decide +kernel) (by decide +kernel)
    (by first | exact .inl (by decide +kernel) | exact .inr (by decide +kernel)) (by rw [isSubtype_type]; kernel_rfl)
theorem type_pat_subn : typeOf (.builtin "re.Pattern.subn") = pure (.type "method_descriptor") := by show builtinType _ = _; rw [builtinType_eq_fast]; kernel_rfl
theorem entry_pat_subn : entryFor table "re.Pattern.subn" = some Builtin.«re.Pattern.subn» := entryFor_of_tree (by kernel_rfl)
theorem args_pat_subn (a b c : Value) : argsOk "re.Pattern.subn" ⟨[a, b, c], []⟩ := by unfold argsOk; kernel_rfl
theorem entry_pat_loop : entryFor table "re.Pattern.sub.loop" = some Builtin.«re.Pattern.sub.loop» := entryFor_of_tree (by kernel_rfl)
theorem plain_pat_loop : plainId "re.Pattern.sub.loop" = true := by decide +kernel
end facts
end Mine
end
section
open PySem PySem.W PyProof.Rows
namespace Mine
open Builtin.Re
variable {C : Mod} {A : Around} {g : Frz} {s : Shared} {E : Value → Shared → Prop}

noncomputable def findTok (x : List Nat) : D :=
  let i := span sp x
  let j := span tokP (x.drop i)
  if x.isEmpty then .none else if j = 0 then .none else .mat x [0, ((i + j : Nat) : Int), (i : Int), ((i + j : Nat) : Int)]
noncomputable def findVal (x : List Nat) : D :=
  let i := span sp x
  if x[i]? = some 61 then
    let p := i + 1 + span sp (x.drop (i + 1))
    let j := span valP (x.drop p)
    .mat x [0, ((p + j : Nat) : Int), (p : Int), ((p + j : Nat) : Int)]
  else .none
noncomputable def findQuo (x : List Nat) : D :=
  let i := span sp x
  let p := i + 1 + span sp (x.drop (i + 1))
  if x[i]? = some 61 ∧ x[p]? = some 34 then
    match qend (x.drop (p + 1)) with
    | some k => .mat x [0, ((p + 1 + k + 1 : Nat) : Int), ((p + 1 : Nat) : Int), ((p + 1 + k : Nat) : Int)]
    | none => .none
  else .none
noncomputable def fullTok (x : List Nat) : D := if x ≠ [] ∧ x.all bareP = true then .mat x [0, (x.length : Int)] else .none

theorem answer1_hit {T : ReTarget} {m : RM} {x : List Nat} {t : Tok} {st en a b : Nat} (hT : T.string = .str ⟨x.toArray⟩ t) (hg : T.groups = 1) (G : Good C g s) (h : EndsAt m (Hit1 st en a b)) (hab : a ≤ b) {Q : Fin → Shared → Prop}
    (q : ∀ v g' s', Step C g s g' s' → R g' (.mat x [st, en, a, b]) v → Q (.done (.ret v)) s') : wpAny C.M A (reAnswer T m) Q E s := by
  unfold reAnswer
  refine wpAny_bind (run_hit h (fun _ sn hh => hh) (fun _ hh => hh.1) fun m' hm => ?_)
  simp only [hT, hg]
  exact wpAny_bind (newMatch1_wp G hm hab fun v g' s' st hv => wpAny_pure (q v g' s' st hv))
theorem answer0_hit {T : ReTarget} {m : RM} {x : List Nat} {t : Tok} {st en : Nat} (hT : T.string = .str ⟨x.toArray⟩ t) (hg : T.groups = 0) (G : Good C g s) (h : EndsAt m (Hit0 st en)) {Q : Fin → Shared → Prop}
    (q : ∀ v g' s', Step C g s g' s' → R g' (.mat x [st, en]) v → Q (.done (.ret v)) s') : wpAny C.M A (reAnswer T m) Q E s := by
  unfold reAnswer
  refine wpAny_bind (run_hit h (fun _ sn hh => hh) (fun _ hh => hh.1) fun m' hm => ?_)
  simp only [hT, hg]
  exact wpAny_bind (newMatch0_wp G hm fun v g' s' st hv => wpAny_pure (q v g' s' st hv))
theorem answer_miss {T : ReTarget} {m : RM} (h : EndsAt m Miss) {Q : Fin → Shared → Prop} (q : Q (.done (.ret .none)) s) : wpAny C.M A (reAnswer T m) Q E s := by
  unfold reAnswer
  exact wpAny_bind (run_miss h (wpAny_pure q))

theorem PatAt.typeIs {a : Addr} {code : Array Nat} {n : Nat} (P : PatAt g a code n) (G : Good C g s) : s.TypeIs (.ref a) "re.Pattern" ∧ ∀ b, Value.ref a = .ref b → ∃ ob, s.heap.get? b = some ob ∧ ob.dict = none := by
  refine Classical.byContradiction fun ng0 => ?_
  obtain ⟨p, fl, ct, cn, h1, h2⟩ := P
  refine ng0 ?_
  exact ⟨⟨_, G.stays _ _ h1, rfl⟩, fun b q => by injection q with q; subst q; exact ⟨_, G.stays _ _ h1, rfl⟩⟩

theorem search_meth {a : Addr} {code : Array Nat} {x : List Nat} {d : D} (P : PatAt g a code 1) (G : Good C g s) (hx : x.length ≤ lim)
    (hd : d = .none ∧ EndsAt (Sre.forSearch code x.toArray 1 0 x.length false) Miss ∨ ∃ st en b e, b ≤ e ∧ d = .mat x [((st : Nat) : Int), ((en : Nat) : Int), ((b : Nat) : Int), ((e : Nat) : Int)] ∧ EndsAt (Sre.forSearch code x.toArray 1 0 x.length false) (Hit1 st en b e)) :
    Meth C A g s (.ref a) "search" [.str x] d := by
  refine ⟨_, _, plainAttrs_pat, slot_pat_search, type_pat_search, (P.typeIs G).1, (P.typeIs G).2, fun g' s' vs st hl E Q k => ?_⟩
  obtain ⟨w, rfl, hw⟩ := RL.one hl
  unfold R at hw; obtain ⟨t, rfl⟩ := hw
  have P' := P.mono st.grow
  refine wpAny_call_entry slot_pat_search (P'.typeIs st.good).1 entry_pat_search ?_ (args_pat_search _ _)
  unfold Builtin.«re.Pattern.search»
  refine wpAny_bind (target_wp P' st.good hx ?_)
  rcases hd with ⟨rfl, h⟩ | ⟨st', en, b, e, hbe, rfl, h⟩
  · exact answer_miss h ⟨_, rfl, k _ _ _ (Step.refl st.good) rfl⟩
  · exact answer1_hit rfl rfl st.good h hbe fun v g'' s'' st'' hv => ⟨_, rfl, k _ _ _ st'' hv⟩

theorem tok_meth {a : Addr} {x : List Nat} (P : PatAt g a codeTok 1) (G : Good C g s) (hx : x.length ≤ lim) (hn : x ≠ []) : Meth C A g s (.ref a) "search" [.str x] (findTok x) := by
  refine search_meth P G hx ?_
  unfold findTok
  have he : x.isEmpty = false := by cases x with | nil => exact absurd rfl hn | cons c l => rfl
  simp only [he, Bool.false_eq_true, if_false]
  by_cases h0 : span tokP (x.drop (span sp x)) = 0
  · rw [if_pos h0]
    exact .inl ⟨rfl, tok_miss hx hn h0⟩
  · rw [if_neg h0]
    exact .inr ⟨0, _, _, _, by omega, rfl, tok_hit hx rfl rfl (by omega)⟩
theorem val_meth {a : Addr} {x : List Nat} (P : PatAt g a codeVal 1) (G : Good C g s) (hx : x.length ≤ lim) : Meth C A g s (.ref a) "search" [.str x] (findVal x) := by
  refine search_meth P G hx ?_
  unfold findVal
  simp only
  split
  · rename_i h0
    exact .inr ⟨0, _, _, _, by omega, rfl, val_hit hx rfl h0 rfl rfl⟩
  · rename_i h0
    exact .inl ⟨rfl, val_miss hx rfl h0⟩
theorem quo_meth {a : Addr} {x : List Nat} (P : PatAt g a codeQuo 1) (G : Good C g s) (hx : x.length ≤ 1000000) : Meth C A g s (.ref a) "search" [.str x] (findQuo x) := by
  refine search_meth P G (by simp only [lim]; omega) ?_
  unfold findQuo
  simp only
  split
  · rename_i h
    cases hk : qend (x.drop (span sp x + 1 + span sp (x.drop (span sp x + 1)) + 1)) with
    | none => exact .inl ⟨rfl, quo_miss hx rfl fun _ _ => hk⟩
    | some k => exact .inr ⟨0, _, _, _, by omega, rfl, quo_hit hx rfl h.1 rfl h.2 hk⟩
  · rename_i h
    exact .inl ⟨rfl, quo_miss hx rfl fun h1 h2 => absurd ⟨h1, h2⟩ h⟩
theorem full_meth {a : Addr} {x : List Nat} (P : PatAt g a codeJTok 0) (G : Good C g s) (hx : x.length ≤ lim) : Meth C A g s (.ref a) "fullmatch" [.str x] (fullTok x) := by
  refine ⟨_, _, plainAttrs_pat, slot_pat_fullmatch, type_pat_fullmatch, (P.typeIs G).1, (P.typeIs G).2, fun g' s' vs st hl E Q k => ?_⟩
  obtain ⟨w, rfl, hw⟩ := RL.one hl
  unfold R at hw; obtain ⟨t, rfl⟩ := hw
  have P' := P.mono st.grow
  refine wpAny_call_entry slot_pat_fullmatch (P'.typeIs st.good).1 entry_pat_fullmatch ?_ (args_pat_fullmatch _ _)
  unfold Builtin.«re.Pattern.fullmatch»
  refine wpAny_bind (target_wp P' st.good hx ?_)
  unfold fullTok at k
  split at k
  · rename_i h
    exact answer0_hit rfl rfl st.good (jtok_hit hx h.1 h.2) fun v g'' s'' st'' hv => ⟨_, rfl, k _ _ _ st'' hv⟩
  · rename_i h
    refine answer_miss (jtok_miss hx ?_) ⟨_, rfl, k _ _ _ (Step.refl st.good) rfl⟩
    by_cases hn : x = []
    · subst hn; exact .inl rfl
    · right
      cases hb : x.all bareP with
      | false => rfl
      | true => exact absurd ⟨hn, hb⟩ h
end Mine
end
section
open PySem PySem.W PyProof.Rows
namespace Mine
open Builtin.Re
variable {C : Mod} {A : Around} {g : Frz} {s : Shared} {E : Value → Shared → Prop}

theorem push_list {a : Addr} {vs : List Value} {n : Nat} {x : Value} {Q : Unit → Shared → Prop} (ha : s.heap.get? a = some (listObj vs n)) (hz : vs.length ≤ lim)
    (h : ∀ h' n', h'.get? a = some (listObj (vs ++ [x]) n') → (∀ b o, b ≠ a → s.heap.get? b = some o → h'.get? b = some o) → Q () { s with heap := h' }) :
    wpAny C.M A (updateSeq a (·.push x)) Q E s := by
  refine wpAny_updateSeq ha rfl (h _ (n + 1) ?_ fun b o hb e => (Heap.SameBut.update ..).extBut b o hb e) (by rw [List.size_toArray, sizeLine_is]; exact hz) (by simp only [Array.size_push, List.size_toArray]; rw [sizeLine_is]; simp only [lim] at hz; omega)
  rw [Heap.get?_update_self _ ha (by rfl)]
  simp [Obj.mapSeq]

theorem slice_wp {x : List Nat} {b e : Nat} (hx : x.length ≤ lim) {Q : Value → Shared → Prop} (q : ∀ t, Q (.str ⟨((x.take e).drop b).toArray⟩ t) { s with toks := s.toks + 1 }) : wpAny C.M A (reSlice x.toArray 0 b e) Q E s := by
  unfold reSlice
  show wpAny C.M A (mkStr ⟨x.toArray.extract b e⟩) Q E s
  have e1 : (⟨x.toArray.extract b e⟩ : Str) = ⟨((x.take e).drop b).toArray⟩ := by
    congr 1; simp [List.extract, List.drop_take]
  rw [e1]
  refine wpAny_mkStr (q _) ?_
  rw [strLen, sizeLine_is]; simp only [lim] at hx; simp; omega

theorem wholeTarget_wp {a : Addr} {code : Array Nat} {groups : Nat} {x : List Nat} {t : Tok} (P : PatAt g a code groups) (G : Good C g s) {Q : ReTarget → Shared → Prop}
    (q : Q { pattern := .ref a, string := .str ⟨x.toArray⟩ t, code := code, text := x.toArray, kind := 0, groups := groups, pos := 0, lim := x.length } s) :
    wpAny C.M A (reWholeTarget (.ref a) (.str ⟨x.toArray⟩ t)) Q E s := by
  refine Classical.byContradiction fun ng0 => ?_
  obtain ⟨p, fl, ct, cn, h1, h2⟩ := P
  refine ng0 ?_
  unfold reWholeTarget
  refine wpAny_bind (wpAny_fieldsOf (G.stays _ _ h1) rfl ?_)
  refine wpAny_bind (textOf_wp ?_)
  show wpAny C.M A (do
    reNoCollectionInside (Value.str ⟨x.toArray⟩ t) 0
    let l ← reRawItems (.ref ct)
    pure { pattern := Value.ref a, string := Value.str ⟨x.toArray⟩ t, code := l.map (·.toNat), text := x.toArray, kind := 0, groups := ((groups : Int)).toNat, pos := 0, lim := x.toArray.size }) Q E s
  refine wpAny_bind (wpAny_pure (wpAny_bind (rawItems_wp (G.stays _ _ h2) (wpAny_pure ?_))))
  rw [raw_code]
  have e1 : x.toArray.size = x.length := by simp
  rw [e1]
  exact q

theorem joined_nil : ∀ l : List (List Nat), joined [] l = l.flatten
  | [] => rfl
  | [x] => by simp [joined]
  | x :: y :: r => by rw [joined, joined_nil (y :: r)]; simp

theorem glue_wp {L : Addr} {vs : List Value} {n : Nat} {t : Tok} {ps : List (List Nat)} (h : s.heap.get? L = some (listObj vs n)) (hr : RL g (ps.map .str) vs) (hz : ps.flatten.length ≤ lim) {Q : Value → Shared → Prop}
    (q : ∀ t' kk, Q (.str ⟨ps.flatten.toArray⟩ t') { s with toks := kk }) : wpAny C.M A (call (.builtin "str.join") [.str ⟨([] : List Nat).toArray⟩ t, .ref L]) Q E s := by
  refine Classical.byContradiction fun ng0 => ?_
  obtain ⟨ts, rfl, h2⟩ := strs_values hr
  refine ng0 ?_
  refine SC.join ⟨_, h, rfl, n, rfl⟩ h2 (joinFit [] ps (by rw [List.length_flatten] at hz; simpa using hz)) fun t' kk => ?_
  rw [glued_joined, joined_nil]
  exact q t' kk

theorem Room.in1 {k : Nat} (r : Room (k + 1) A) : Room k A.in1 := ⟨r.handled, by have := r.depth; show A.depth + k < 900; omega, by have := r.units; show A.units + 1 + 8 * k < 9000; omega⟩

theorem call_entry_again {T : String} {name : Str} {id : String} {b : Builtin} {self : Value} {rest : List Value} {Q : Value → Shared → Prop} (h : PySem.Slot T name id) (hT : s.TypeIs self T) (hb : entryFor table id = some b)
    (hc : wpAny C.M A.in1 (b ⟨self :: rest, []⟩) (fun fin s' => match fin with | .done (.ret v) => Q v s' | .done _ => False | .again c' => c'.quiet = true ∧ codeAny C.M A c' (fun r s' => match r with | .ok (.ret v) => Q v s' | .ok _ => False | .error e => E e s') s') E s)
    (ha : argsOk id ⟨self :: rest, []⟩) : wpAny C.M A (call (.builtin id) (self :: rest)) Q E s := by
  refine wpAny_call (codeAny_call_builtin h.plain hb (h.check _ _ _ _ _ _ _ _ hT ha (wpAny_mono hc (fun fin s' h' => ?_) fun _ _ h' => h')))
  cases fin with
  | done f => cases f <;> first | exact h' | exact h'.elim
  | again c => exact h'
end Mine
end
section
open PySem PySem.W PyProof.Rows
namespace Mine
open Builtin.Re
variable {C : Mod} {A : Around} {g : Frz} {s : Shared} {E : Value → Shared → Prop}

noncomputable abbrev loopArgs (pat str repl : Value) (way n done start : Int) (must : Bool) (L : Addr) (wc : Bool) : Args :=
  ⟨[pat, str, repl, rawInt way, rawInt 0, rawInt n, rawInt done, rawInt start, .bool must, .ref L, .bool wc], []⟩
noncomputable abbrev loopCode (pat str repl : Value) (way n done start : Int) (must : Bool) (L : Addr) (wc : Bool) : Code := .builtin "re.Pattern.sub.loop" (loopArgs pat str repl way n done start must L wc)

section facts
set_option maxRecDepth 100000
theorem noCall_str : typeLookup (.type "str") "__call__" = pure none := by rw [typeLookup_type, builtinLookup_eq_fast]; kernel_rfl
theorem hasCall_fn : typeLookup (.type "function") "__call__" = pure (some (.builtin "function.__call__")) := by rw [typeLookup_type, builtinLookup_eq_fast]; kernel_rfl
theorem sub_str_bytearray : isSubtype (.type "str") (.type "bytearray") = pure false := by rw [isSubtype_type]; kernel_rfl
end facts

noncomputable def turnHit (pat str repl : Value) (way n : Int) (L : Addr) (wc : Bool) (T : ReTarget) (done : Nat) (m : RM) : Sem Fin := do
  if done < m.start then updateSeq L (·.push (← reSlice T.text T.kind done m.start))
  let item ← if way == 0 then pure repl else do
      let found ← reNewMatch pat str T.groups 0 T.lim m
      holding [found] (if way == 1 then call repl [found] else do reExpand repl (← reFound found))
  if item != .none then updateSeq L (·.push item)
  again (.builtin "re.Pattern.sub.loop" ⟨[pat, str, repl, rawInt way, rawInt 0, rawInt (n + 1), rawInt m.handed, rawInt m.handed, .bool (m.handed == m.start), .ref L, .bool wc], []⟩)
noncomputable def turnMiss (n : Int) (L : Addr) (wc : Bool) (T : ReTarget) (done : Nat) : Sem Fin := do
  if done < T.lim then updateSeq L (·.push (← reSlice T.text T.kind done T.lim))
  let joiner ← reSlice T.text T.kind 0 0
  let text ← if ((← seqItems? (.ref L)).getD #[]).isEmpty then pure joiner
    else call (.builtin (if T.kind == 0 then "str.join" else "bytes.join")) [joiner, .ref L]
  if wc then ret (← holding [text] do newTuple [text, ← mkInt n]) else ret text
noncomputable def turn (pat str repl : Value) (way n : Int) (L : Addr) (wc must : Bool) (T : ReTarget) (done start : Nat) : Sem Fin := do
  if way == 0 then reLiteralCannotBeTurned repl
  match ← reNextFound T start must with
  | some m => turnHit pat str repl way n L wc T done m
  | none => turnMiss n L wc T done

theorem loop_code {a : Addr} {code : Array Nat} {groups : Nat} {x : List Nat} {t : Tok} {repl : Value} {way n : Int} {done start : Nat} {must wc : Bool} {L : Addr} {R' : Result → Shared → Prop} (P : PatAt g a code groups) (G : Good C g s)
    (h : wpAny C.M A.in1 (turn (.ref a) (.str ⟨x.toArray⟩ t) repl way n L wc must { pattern := .ref a, string := .str ⟨x.toArray⟩ t, code := code, text := x.toArray, kind := 0, groups := groups, pos := 0, lim := x.length } done start)
      (fun fin s' => match fin with | .done f => R' (.ok f) s' | .again c' => c'.quiet = true ∧ codeAny C.M A c' R' s') (fun e s' => R' (.error e) s') s) :
    codeAny C.M A (loopCode (.ref a) (.str ⟨x.toArray⟩ t) repl way n done start must L wc) R' s := by
  refine codeAny_builtin entry_pat_loop ?_
  rw [Around.under_plainId plain_pat_loop]
  unfold Builtin.«re.Pattern.sub.loop»
  refine wpAny_bind (wholeTarget_wp P G ?_)
  exact h

theorem loop_end {a : Addr} {code : Array Nat} {groups : Nat} {x : List Nat} {t : Tok} {repl : Value} {way n : Int} {done : Nat} {must wc : Bool} {L : Addr} {vs : List Value} {ln : Nat} {ps : List (List Nat)} {R' : Result → Shared → Prop}
    (hx : x.length ≤ lim) (P : PatAt g a code groups) (G : Good C g s) (hw : way = 1 ∨ way = 0 ∧ ∃ r t, repl = .str r t)
    (hL : s.heap.get? L = some (listObj vs ln)) (gL : g L = none) (tL : L ∉ C.tabs) (hr : RL g (ps.map .str) vs) (hz : ps.length < lim) (hz2 : ps.flatten.length + x.length ≤ lim)
    (hm : EndsAt (Sre.forSearch code x.toArray groups done x.length must) Miss)
    (q : ∀ g' s' v, StepB C (fun b => b = L) g s g' s' → (if wc then R g' (.tuple [.str (ps.flatten ++ x.drop done), .int n]) v else R g' (.str (ps.flatten ++ x.drop done)) v) → R' (.ok (.ret v)) s') :
    codeAny C.M A (loopCode (.ref a) (.str ⟨x.toArray⟩ t) repl way n done done must L wc) R' s := by
  refine loop_code P G ?_
  unfold turn
  suffices main : wpAny C.M A.in1 (do
      match ← reNextFound { pattern := .ref a, string := .str ⟨x.toArray⟩ t, code := code, text := x.toArray, kind := 0, groups := groups, pos := 0, lim := x.length } done must with
      | some m => turnHit (.ref a) (.str ⟨x.toArray⟩ t) repl way n L wc { pattern := .ref a, string := .str ⟨x.toArray⟩ t, code := code, text := x.toArray, kind := 0, groups := groups, pos := 0, lim := x.length } done m
      | none => turnMiss n L wc { pattern := .ref a, string := .str ⟨x.toArray⟩ t, code := code, text := x.toArray, kind := 0, groups := groups, pos := 0, lim := x.length } done)
      (fun fin s' => match fin with | .done f => R' (.ok f) s' | .again c' => c'.quiet = true ∧ codeAny C.M A c' R' s') (fun e s' => R' (.error e) s') s by
    rcases hw with rfl | ⟨rfl, r, t', rfl⟩
    · exact main
    · refine wpAny_bind ?_
      unfold reLiteralCannotBeTurned
      exact wpAny_bind (wpAny_pure (wpAny_pure main))
  refine wpAny_bind (run_miss hm ?_)
  show wpAny C.M A.in1 (turnMiss n L wc _ done) _ _ s
  unfold turnMiss
  -- the end of the work: glue, and the count
  have fin : ∀ (s1 : Shared) (vs1 : List Value) (ln1 : Nat) (ps1 : List (List Nat)), StepB C (fun b => b = L) g s g s1 → s1.heap.get? L = some (listObj vs1 ln1) → RL g (ps1.map .str) vs1 → ps1.flatten = ps.flatten ++ x.drop done →
      wpAny C.M A.in1 (do
        let joiner ← reSlice x.toArray 0 0 0
        let text ← if ((← seqItems? (.ref L)).getD #[]).isEmpty then pure joiner else call (.builtin "str.join") [joiner, .ref L]
        if wc then ret (← holding [text] do newTuple [text, ← mkInt n]) else ret text)
        (fun fin s' => match fin with | .done f => R' (.ok f) s' | .again c' => c'.quiet = true ∧ codeAny C.M A c' R' s') (fun e s' => R' (.error e) s') s1 := by
    intro s1 vs1 ln1 ps1 st1 hL1 hr1 he1
    refine wpAny_bind (slice_wp hx fun t1 => ?_)
    have e0 : ((x.take 0).drop 0) = ([] : List Nat) := by simp
    rw [e0]
    refine wpAny_bind (wpAny_seqItems (s := { s1 with toks := s1.toks + 1 }) hL1 rfl ?_)
    have fin2 : ∀ (s2 : Shared) (t2 : Tok), StepB C (fun b => b = L) g s g s2 → wpAny C.M A.in1 (if wc = true then (do ret (← holding [Value.str ⟨(ps.flatten ++ x.drop done).toArray⟩ t2] do newTuple [Value.str ⟨(ps.flatten ++ x.drop done).toArray⟩ t2, ← mkInt n])) else ret (Value.str ⟨(ps.flatten ++ x.drop done).toArray⟩ t2))
        (fun fin s' => match fin with | .done f => R' (.ok f) s' | .again c' => c'.quiet = true ∧ codeAny C.M A c' R' s') (fun e s' => R' (.error e) s') s2 := by
      intro s2 t2 st2
      cases wc with
      | false => exact wpAny_pure (q _ _ _ st2 ⟨t2, rfl⟩)
      | true =>
        simp only [if_true] at q ⊢
        refine wpAny_bind (wpAny_holding (wpAny_bind (wpAny_mkInt (wpAny_newTuple (wpAny_pure ?_)))))
        have st3 : Step C g s2 g { s2 with toks := s2.toks + 1 } := Step.toks st2.good _
        have st4 := Step.push (s := { s2 with toks := s2.toks + 1 }) st3.good (tupObj [Value.str ⟨(ps.flatten ++ x.drop done).toArray⟩ t2, .int n s2.toks] 0) rfl (s2.toks + 1)
        exact q _ _ _ (st2.trans ((st3.trans st4).toB _)) ⟨_, _, 0, rfl, Frz.put_self .., RL.cons ⟨t2, rfl⟩ (RL.cons ⟨_, rfl⟩ RL.nil)⟩
    have hz3 : ps1.flatten.length ≤ lim := by rw [he1, List.length_append, List.length_drop]; omega
    show wpAny C.M A.in1 (if vs1.toArray.isEmpty = true then _ else _) _ _ _
    by_cases hv : vs1 = []
    · subst hv
      have hp : ps1 = [] := by cases ps1 with | nil => rfl | cons a b => exact absurd hr1.length (by simp)
      subst hp
      change wpAny C.M A.in1 (pure (Value.str ⟨([] : List Nat).toArray⟩ t1) >>= _) _ _ _
      have e1 : ps.flatten ++ x.drop done = [] := by rw [← he1]; rfl
      have := fin2 { s1 with toks := s1.toks + 1 } t1 (st1.trans ((Step.toks st1.good _).toB _))
      rw [e1] at this
      exact wpAny_bind (wpAny_pure this)
    · rw [if_neg (by simpa using hv)]
      refine wpAny_bind (glue_wp (s := { s1 with toks := s1.toks + 1 }) hL1 hr1 hz3 fun t' kk => ?_)
      rw [he1]
      exact fin2 { s1 with toks := kk } t' (st1.trans ((Step.toks st1.good _).toB _))
  by_cases hd : done < x.length
  · show wpAny C.M A.in1 (if done < x.length then _ else _) _ _ s
    rw [if_pos hd]
    refine wpAny_bind (slice_wp hx fun t1 => ?_)
    have st0 : Step C g s g { s with toks := s.toks + 1 } := Step.toks G _
    refine wpAny_bind (push_list (s := { s with toks := s.toks + 1 }) hL (by rw [hr.length]; simp; omega) fun h' n' ha' hk => ?_)
    have st1 : StepB C (fun b => b = L) g { s with toks := s.toks + 1 } g { s with heap := h', toks := s.toks + 1 } := StepB.upd (tk := s.toks + 1) st0.good (fun b q => by subst q; exact ⟨gL, tL⟩) fun b o n e => hk b o n e
    refine fin { s with heap := h', toks := s.toks + 1 } _ n' (ps ++ [x.drop done]) ((st0.toB _).trans st1) ha' ?_ (by simp)
    rw [List.map_append]
    refine hr.append (RL.cons ⟨t1, ?_⟩ RL.nil)
    rw [List.take_length]
  · show wpAny C.M A.in1 (if done < x.length then _ else _) _ _ s
    rw [if_neg hd]
    exact fin s vs ln ps (StepB.refl G _) hL hr (by rw [List.drop_eq_nil_of_le (by omega)]; simp)
end Mine
end
section
open PySem PySem.W PyProof.Rows
namespace Mine
open Builtin.Re
variable {C : Mod} {A : Around} {g : Frz} {s : Shared} {E : Value → Shared → Prop}

theorem turn_of {pat str repl : Value} {way n : Int} {L : Addr} {wc must : Bool} {T : ReTarget} {done start : Nat} {Q : Fin → Shared → Prop} (hw : way = 1 ∨ way = 0 ∧ ∃ r t, repl = .str r t)
    (main : wpAny C.M A (do match ← reNextFound T start must with | some m => turnHit pat str repl way n L wc T done m | none => turnMiss n L wc T done) Q E s) : wpAny C.M A (turn pat str repl way n L wc must T done start) Q E s := by
  unfold turn
  rcases hw with rfl | ⟨rfl, r, t', rfl⟩
  · exact main
  · refine wpAny_bind ?_
    unfold reLiteralCannotBeTurned
    exact wpAny_bind (wpAny_pure (wpAny_pure main))
theorem turn_hit {pat str repl : Value} {way n : Int} {L : Addr} {wc must : Bool} {T : ReTarget} {done start : Nat} {Q : Fin → Shared → Prop} {P : RM → Prop} (hw : way = 1 ∨ way = 0 ∧ ∃ r t, repl = .str r t)
    (h : EndsAt (Sre.forSearch T.code T.text T.groups start T.lim must) P) (hs : ∀ m sn, P m → P { m with seen := sn }) (ho : ∀ m, P m → m.outcome = some .matched)
    (main : ∀ m, P m → wpAny C.M A (turnHit pat str repl way n L wc T done m) Q E s) : wpAny C.M A (turn pat str repl way n L wc must T done start) Q E s :=
  turn_of hw (wpAny_bind (run_hit h hs ho fun m hm => main m hm))

theorem subn_meth {a : Addr} {x : List Nat} {k : Nat} (P : PatAt g a codeTwin 0) (G : Good C g s) (hx : x.length ≤ 1000000) (hk : span junkP x = k) (h0 : 0 < k) :
    Meth C A g s (.ref a) "subn" [.str [], .str x] (.tuple [.str (x.drop k), .int 1]) := by
  refine ⟨_, _, plainAttrs_pat, slot_pat_subn, type_pat_subn, (P.typeIs G).1, (P.typeIs G).2, fun g' s' vs st hl E Q q => ?_⟩
  obtain ⟨w1, w2, rfl, hw1, hw2⟩ := RL.two hl
  unfold R at hw1 hw2; obtain ⟨t1, rfl⟩ := hw1; obtain ⟨t2, rfl⟩ := hw2
  have P' := P.mono st.grow
  have hxl : x.length ≤ lim := by simp only [lim]; omega
  have hkx : k ≤ x.length := by rw [← hk]; exact span_le _ _
  refine call_entry_again slot_pat_subn (P'.typeIs st.good).1 entry_pat_subn ?_ (args_pat_subn _ _ _)
  unfold Builtin.«re.Pattern.subn» reSubstitute
  refine wpAny_bind (wpAny_of_eq (a := [some (.str ⟨([] : List Nat).toArray⟩ t1), some (.str ⟨x.toArray⟩ t2), none]) rfl ?_)
  refine wpAny_bind (wpAny_pure ?_)
  refine wpAny_bind (wpAny_specialOf (typeIs_str _ _ _) noCall_str ?_)
  refine wpAny_bind (wpAny_bind (wpAny_pure (wpAny_pure ?_)))
  refine wpAny_bind (wpAny_pure ?_)
  have hc : (!({ cps := ([] : List Nat).toArray } : Str).cps.contains 92) = true := by simp
  rw [hc]
  show wpAny C.M A.in1 (do
    let _ ← holding [Value.str ⟨([] : List Nat).toArray⟩ t1] (reWholeTarget (.ref a) (.str ⟨x.toArray⟩ t2))
    let l ← newList []
    again (.builtin "re.Pattern.sub.loop" ⟨[.ref a, .str ⟨x.toArray⟩ t2, .str ⟨([] : List Nat).toArray⟩ t1, rawInt 0, rawInt 0, rawInt 0, rawInt 0, rawInt 0, .bool false, l, .bool true], []⟩)) _ _ s'
  refine wpAny_bind (wpAny_holding (wholeTarget_wp P' st.good ?_))
  refine wpAny_bind (wpAny_newList (wpAny_pure ⟨plainId_quiet plain_pat_loop _, ?_⟩) (by rw [sizeLine_is]; simp))
  have L0 : (s'.heap.push (listObj [] 0)).get? s'.heap.objs.size = some (listObj [] 0) := Heap.get?_push_size _ rfl
  have stn : Step C g' s' g' { s' with heap := s'.heap.push (listObj [] 0) } := Step.grew (tk := s'.toks) st.good fun a x e => Heap.get?_push_of_some _ e
  have gL : g' s'.heap.objs.size = none := st.good.new
  have tL : s'.heap.objs.size ∉ C.tabs := st.good.new_tab
  -- the first turn
  refine loop_code (done := 0) (start := 0) (s := { s' with heap := s'.heap.push (listObj [] 0) }) P' stn.good ?_
  refine @turn_hit C A.in1 _ _ _ _ _ _ _ _ _ _ _ _ _ _ (Hit0 0 k) (.inr ⟨rfl, _, _, rfl⟩) (twin_hit hxl hk) (fun _ sn hh => hh) (fun _ hh => hh.1) fun m hm => ?_
  obtain ⟨_, m1, m2⟩ := hm
  unfold turnHit
  rw [m1, m2]
  show wpAny C.M A.in1 (do
    updateSeq s'.heap.objs.size (·.push (Value.str ⟨([] : List Nat).toArray⟩ t1))
    again (.builtin "re.Pattern.sub.loop" ⟨[.ref a, .str ⟨x.toArray⟩ t2, .str ⟨([] : List Nat).toArray⟩ t1, rawInt 0, rawInt 0, rawInt 1, rawInt k, rawInt k, .bool (k == 0), .ref s'.heap.objs.size, .bool true], []⟩)) _ _ _
  refine wpAny_bind (push_list (s := { s' with heap := s'.heap.push (listObj [] 0) }) L0 (by simp) fun h' n' ha' hk' => ?_)
  refine wpAny_pure ⟨plainId_quiet plain_pat_loop _, ?_⟩
  have st1 : StepB C (fun b => b = s'.heap.objs.size) g' { s' with heap := s'.heap.push (listObj [] 0) } g' { s' with heap := h' } := StepB.upd (tk := s'.toks) stn.good (fun b q => by subst q; exact ⟨gL, tL⟩) fun b o n e => hk' b o n e
  have hke : (k == 0) = false := by simp; omega
  rw [hke]
  refine loop_end (g := g') (s := { s' with heap := h' }) (done := k) (ps := [[]]) hxl P' st1.good (.inr ⟨rfl, _, _, rfl⟩) ha' gL tL (RL.cons ⟨t1, rfl⟩ RL.nil) (show 1 < lim by decide) (by simp; exact hxl) (twin_miss hxl h0 hkx) fun g2 s2 v st2 hv => ?_
  simp only [if_true] at hv
  refine q v g2 s2 ?_ (by simpa using hv)
  refine (((stn.toB _).trans st1).trans st2).toStep fun b hb => ?_
  subst hb; exact Heap.get?_size _
end Mine
end
section
open PySem PySem.W PyProof.Rows
namespace Mine
open Builtin.Re
variable {C : Mod} {A : Around} {g : Frz} {s : Shared} {E : Value → Shared → Prop}

structure SubSpec (code : Array Nat) (x : List Nat) (f : Nat → Nat → List Nat) (out : Nat → List Nat) : Prop where
  step : ∀ p, p ≤ x.length → (EndsAt (Sre.forSearch code x.toArray 1 p x.length false) Miss ∧ out p = x.drop p) ∨
    ∃ q e a b, p ≤ q ∧ q < e ∧ e ≤ x.length ∧ a ≤ b ∧ b ≤ x.length ∧ EndsAt (Sre.forSearch code x.toArray 1 p x.length false) (Hit1 q e a b) ∧ out p = (x.take q).drop p ++ f a b ++ out e ∧ (f a b).length ≤ 2

theorem turn_hit1 {pat str repl : Value} {n : Int} {L : Addr} {T : ReTarget} {done : Nat} {st en a b : Nat} {Q : Fin → Shared → Prop}
    (h : EndsAt (Sre.forSearch T.code T.text T.groups done T.lim false) (Hit1 st en a b))
    (main : ∀ m, Hit1 st en a b m → wpAny C.M A (turnHit pat str repl 1 n L false T done m) Q E s) : wpAny C.M A (turn pat str repl 1 n L false false T done done) Q E s :=
  @turn_hit C A s E pat str repl 1 n L false false T done done Q (Hit1 st en a b) (.inl rfl) h (fun _ sn hh => hh) (fun _ hh => hh.1) main

theorem sub_loop {a : Addr} {code : Array Nat} {x : List Nat} {t : Tok} {lam : Value} {f : Nat → Nat → List Nat} {out : Nat → List Nat} (S : SubSpec code x f out) (hx : x.length ≤ 1000000)
    (hlam : ∀ g₁ s₁ v st en b e, Step C g s g₁ s₁ → b ≤ e → e ≤ x.length → R g₁ (.mat x [((st : Nat) : Int), ((en : Nat) : Int), ((b : Nat) : Int), ((e : Nat) : Int)]) v → Gives C A.in1 g₁ s₁ (call lam [v]) (.str (f b e)))
    {L : Addr} (gL : g L = none) (tL : L ∉ C.tabs) (sL : s.heap.get? L = none) :
    ∀ (d p : Nat) {n : Int} {g₁ : Frz} {s₁ : Shared} {vs : List Value} {ln : Nat} {ps : List (List Nat)} {R' : Result → Shared → Prop}, x.length - p ≤ d → p ≤ x.length → StepB C (fun b => b = L) g s g₁ s₁ → PatAt g₁ a code 1 →
      s₁.heap.get? L = some (listObj vs ln) → g₁ L = none → RL g₁ (ps.map .str) vs → ps.length + 2 * (x.length - p) ≤ 2 * x.length → ps.flatten.length + 3 * (x.length - p) ≤ 3 * x.length →
      (∀ g' s' v, Step C g s g' s' → R g' (.str (ps.flatten ++ out p)) v → R' (.ok (.ret v)) s') →
      codeAny C.M A (loopCode (.ref a) (.str ⟨x.toArray⟩ t) lam 1 n p p false L false) R' s₁ := by
    intro d
    induction d using Nat.strongRecOn with
    | ind d ih =>
    intro p n g₁ s₁ vs ln ps R' hd hp st P hL gL₁ hr z1 z2 q
    have hxl : x.length ≤ lim := by simp only [lim]; omega
    rcases S.step p hp with ⟨hm, ho⟩ | ⟨q', e, b, b', h1, h2, h3, h4, h5, hm, ho, hf⟩
    · refine loop_end (g := g₁) hxl P st.good (.inl rfl) hL gL₁ tL hr (by simp only [lim]; omega) (by simp only [lim]; omega) hm fun g' s' v st' hv => ?_
      simp only [Bool.false_eq_true, if_false] at hv
      refine q g' s' v ((st.trans st').toStep fun b hb => by subst hb; exact sL) (by rw [ho]; exact hv)
    · refine loop_code P st.good ?_
      refine turn_hit1 hm fun m hmm => ?_
      have hmm' := hmm
      obtain ⟨_, m1, m2, _, _⟩ := hmm'
      unfold turnHit
      rw [m1, m2]
      -- the match, the call, the next turn
      have rest : ∀ (s₂ : Shared) (vs₂ : List Value) (ln₂ : Nat) (ps₂ : List (List Nat)), StepB C (fun b => b = L) g s g₁ s₂ → s₂.heap.get? L = some (listObj vs₂ ln₂) → RL g₁ (ps₂.map .str) vs₂ → ps₂.flatten = ps.flatten ++ (x.take q').drop p → ps₂.length ≤ ps.length + 1 →
          wpAny C.M A.in1 (do
            let found ← reNewMatch (.ref a) (.str ⟨x.toArray⟩ t) 1 0 x.length m
            let item ← holding [found] (call lam [found])
            if item != .none then updateSeq L (·.push item)
            again (.builtin "re.Pattern.sub.loop" ⟨[.ref a, .str ⟨x.toArray⟩ t, lam, rawInt 1, rawInt 0, rawInt (n + 1), rawInt e, rawInt e, .bool (e == q'), .ref L, .bool false], []⟩))
            (fun fin s' => match fin with | .done f => R' (.ok f) s' | .again c' => c'.quiet = true ∧ codeAny C.M A c' R' s') (fun e s' => R' (.error e) s') s₂ := by
        intro s₂ vs₂ ln₂ ps₂ st₂ hL₂ hr₂ hps hpl
        refine wpAny_bind (newMatch1_wp st₂.good hmm h4 fun v g₃ s₃ st₃ hv => wpAny_bind (wpAny_holding ?_))
        have st13 := st₂.trans (st₃.toB (fun b => b = L))
        have full : Step C g s g₃ s₃ := st13.toStep fun b hb => by subst hb; exact sL
        refine hlam g₃ s₃ v q' e b b' full h4 h5 hv _ _ fun w g₄ s₄ st₄ hw => ?_
        have hL₄ : s₄.heap.get? L = some (listObj vs₂ ln₂) := st₄.keep L _ tL (st₃.keep L _ tL hL₂)
        have gL₃ : g₃ L = none := (st₃.fresh L _ hL₂).trans gL₁
        have gL₄ : g₄ L = none := (st₄.fresh L _ (st₃.keep L _ tL hL₂)).trans gL₃
        have hw' := hw
        unfold R at hw; obtain ⟨tw, rfl⟩ := hw
        show wpAny C.M A.in1 (do
          updateSeq L (·.push (Value.str ⟨(f b b').toArray⟩ tw))
          again (.builtin "re.Pattern.sub.loop" ⟨[.ref a, .str ⟨x.toArray⟩ t, lam, rawInt 1, rawInt 0, rawInt (n + 1), rawInt e, rawInt e, .bool (e == q'), .ref L, .bool false], []⟩)) _ _ s₄
        refine wpAny_bind (push_list hL₄ (by rw [hr₂.length]; simp only [List.length_map, lim]; omega) fun h' n' ha' hk => ?_)
        refine wpAny_pure ⟨plainId_quiet plain_pat_loop _, ?_⟩
        have hne : (e == q') = false := by simp; omega
        rw [hne]
        have st₅ : StepB C (fun b => b = L) g₄ s₄ g₄ { s₄ with heap := h' } := StepB.upd (tk := s₄.toks) st₄.good (fun b q => by subst q; exact ⟨gL₄, tL⟩) fun b o n e => hk b o n e
        refine ih (x.length - e) (by omega) e (ps := ps₂ ++ [f b b']) (Nat.le_refl _) h3 ((st13.trans (st₄.toB _)).trans st₅) (P.mono (Frz.le_trans st₃.grow st₄.grow)) ha' gL₄ ?_ (by simp; omega) ?_ fun g' s' v st' hv => q g' s' v st' ?_
        · rw [List.map_append]
          exact (hr₂.mono (Frz.le_trans st₃.grow st₄.grow)).append (RL.cons hw' RL.nil)
        · simp only [List.flatten_append, List.flatten_cons, List.flatten_nil, List.append_nil, List.length_append, hps, List.length_drop, List.length_take]
          omega
        · rw [ho]
          simp only [List.flatten_append, List.flatten_cons, List.flatten_nil, List.append_nil, hps, List.append_assoc] at hv ⊢
          exact hv
      by_cases hd' : p < q'
      · rw [if_pos hd']
        refine wpAny_bind (slice_wp hxl fun t1 => ?_)
        have st0 : Step C g₁ s₁ g₁ { s₁ with toks := s₁.toks + 1 } := Step.toks st.good _
        refine wpAny_bind (push_list (s := { s₁ with toks := s₁.toks + 1 }) hL (by rw [hr.length]; simp only [List.length_map, lim]; omega) fun h' n' ha' hk => ?_)
        have st1 : StepB C (fun b => b = L) g₁ { s₁ with toks := s₁.toks + 1 } g₁ { s₁ with heap := h', toks := s₁.toks + 1 } := StepB.upd (tk := s₁.toks + 1) st0.good (fun b q => by subst q; exact ⟨gL₁, tL⟩) fun b o n e => hk b o n e
        refine rest { s₁ with heap := h', toks := s₁.toks + 1 } _ n' (ps ++ [(x.take q').drop p]) ((st.trans (st0.toB _)).trans st1) ha' ?_ (by simp) (by simp)
        rw [List.map_append]
        exact hr.append (RL.cons ⟨t1, rfl⟩ RL.nil)
      · rw [if_neg hd']
        exact rest s₁ vs ln ps st hL hr (by rw [List.drop_eq_nil_of_le (by simp; omega)]; simp) (by omega)
end Mine
end
section
open PySem PySem.W PyProof.Rows
namespace Mine
open Builtin.Re
variable {C : Mod} {A : Around} {g : Frz} {s : Shared} {E : Value → Shared → Prop} {env : Env} {m : Str → Option Value} {k : Nat}

structure LamOK (C : Mod) (c P : Addr) (qn : Str) (pos : Pos) (args : Arguments) (body : Expr) (scope : Scope) (p : Str) : Prop where
  mem : P ∈ C.tabs
  head : ∀ (g : Frz) (h : Heap), C.Base g → (∀ a o, g a = some o → h.get? a = some o) → CodeHd h c P
  look : ∀ (g : Frz) (h : Heap), C.Tab g h → ∃ ps, h.get? P = some (tabObj ps) ∧ TriplesOk ps.toList ∧ (codeAmong pos ps.toList = none ∨ ∃ c' oc vs t, codeAmong pos ps.toList = some (.ref c') ∧ g c' = some oc ∧ oc.data = .fields vs ∧ vs[1]? = some (.str (qn ++ "<lambda>") t))
  grow : ∀ (g : Frz) (h : Heap) (g' : Frz) (h' : Heap) (ps : Array Value) (c' : Addr) (oc : Obj) (vs : Array Value) (t : Tok), C.Tab g h → h.get? P = some (tabObj ps) → g.le g' → (∀ a ∈ C.tabs, a ≠ P → h'.get? a = h.get? a) → h'.get? P = some (tabObj (ps ++ #[rawInt pos.line, rawInt pos.col, .ref c'])) →
    codeAmong pos ps.toList = none → g' c' = some oc → oc.data = .fields vs → vs[1]? = some (.str (qn ++ "<lambda>") t) → C.Tab g' h'
  bltn : ∀ (g : Frz) (h : Heap), C.Base g → (∀ a o, g a = some o → h.get? a = some o) → h.BuiltinsAt C.mg P
  globP : mainGlobals ≠ P
  defs : ∀ env, defaultsOf args env = ([], [])
  bind : ∀ (pm cdv ctv v : Value), bindArgs (kla_fn "<lambda>" (qn ++ "<lambda>") args body scope [] pm cdv ctv) ⟨[v], []⟩ = pure [(p, v)]
  names : scope.names = [(p, .local)]
  kind : scope.kind = .function
  co : scope.isCoroutine = false
  gen : scope.isGenerator = false
  noCode : C.codeOf [(p, .local)] = none

noncomputable abbrev lamObj (qn : Str) (args : Arguments) (body : Expr) (scope : Scope) (pm cdv ctv : Value) : Obj := { cls := .type "function", data := .func (kla_fn "<lambda>" (qn ++ "<lambda>") args body scope [] pm cdv ctv) }

inductive IsLam (g : Frz) (qn : Str) (args : Arguments) (body : Expr) (scope : Scope) (v : Value) : Prop
  | mk (fa : Addr) (pm : Value) (c' : Addr) (ctv : Value) (oc : Obj) (vs : Array Value) (t : Nat) (_ : v = .ref fa) (_ : g fa = some (lamObj qn args body scope pm (.ref c') ctv)) (_ : g c' = some oc) (_ : oc.data = .fields vs) (_ : vs[1]? = some (.str (qn ++ "<lambda>") t))

theorem IsLam.mono {g' : Frz} {qn : Str} {args : Arguments} {body : Expr} {scope : Scope} {v : Value} (h : IsLam g qn args body scope v) (hg : g.le g') : IsLam g' qn args body scope v :=
  let ⟨fa, pm, c', ctv, oc, vs, t, e, h1, h2, r, r1⟩ := h; ⟨fa, pm, c', ctv, oc, vs, t, e, hg _ _ h1, hg _ _ h2, r, r1⟩

theorem lam_eval {c P : Addr} {qn : Str} {pos : Pos} {args : Arguments} {body : Expr} {scope : Scope} {p : Str} (L : LamOK C c P qn pos args body scope p) (F : Frame C s.heap env m) (hcode : env.code = .ref c) (hq : env.qual = qn) (G : Good C g s)
    {Q : Value → Shared → Prop} (q : ∀ v g' s', Step C g s g' s' → IsLam g' qn args body scope v → Q v s') : wpAny C.M A (eval (.Lambda args body scope pos) env) Q E s := by
  have e : eval (.Lambda args body scope pos) env = (do
    let (d, kd) := defaultsOf args env
    let dv ← evalAll d
    let kdv ← holding dv (evalAllOpt kd)
    makeFunction "<lambda>" (env.qual ++ "<lambda>") args (.expr body) scope env dv kdv [] pos pos.line) := rfl
  rw [e, L.defs env, hq]
  refine wpAny_bind (wpAny_pure (wpAny_bind (wpAny_holding (wpAny_pure ?_))))
  refine Classical.byContradiction fun ng0 => ?_
  obtain ⟨ps, hP, ht, hl⟩ := L.look g s.heap G.tab
  have hcl : closureFor scope env = pure [] := by
    have := closureFor_clos (env := env) (scope := scope) (by rw [L.names]; intro q hq' h2; simp at hq'; rw [hq'] at h2; cases h2)
    rw [this, L.names]; rfl
  have hd := L.head g s.heap G.base G.stays
  have hb := L.bltn g s.heap G.base G.stays
  have hns := G.ns (C.glob G.base)
  refine ng0 ?_
  rcases hl with hn | ⟨c', oc, vs, t, hf, hoc, hdc, hv⟩
  · refine kla_makeFunction hcl F.glob hns hcode hd hP ht hn L.globP hb fun c' ctv h' tk hx hge hlt hrec htb => ?_
    refine Classical.byContradiction fun ng0 => ?_
    obtain ⟨c₂, oc, vs, t, e2, hoc, hdc, hv⟩ := hrec
    refine ng0 ?_
    cases e2
    have hPg : g P = none := G.apart P L.mem
    have hc'g : g c' = none := G.none (by
      cases e : s.heap.get? c' with
      | none => rfl
      | some o => exact absurd (Heap.lt_size e) (Nat.not_lt.mpr hge))
    have hc's : s.heap.get? c' = none := by
      cases e : s.heap.get? c' with
      | none => rfl
      | some o => exact absurd (Heap.lt_size e) (Nat.not_lt.mpr hge)
    have hsz : s.heap.objs.size ≤ h'.objs.size := by
      rcases Nat.lt_or_ge h'.objs.size s.heap.objs.size with z | z
      · omega
      · exact z
    have hfg : s.heap.get? h'.objs.size = none := by
      cases e : s.heap.get? h'.objs.size with
      | none => rfl
      | some o => exact absurd (Heap.lt_size e) (Nat.not_lt.mpr hsz)
    let fO := kla_obj "<lambda>" (qn ++ "<lambda>") args body scope [] ((C.mg "__name__").getD .none) c' ctv
    have nef : h'.objs.size ≠ c' := Nat.ne_of_gt hlt
    have gf : (g.put c' oc) h'.objs.size = none := by
      unfold Frz.put; rw [if_neg nef]; exact G.none hfg
    have le1 : g.le (g.put c' oc) := Frz.le_put hc'g
    have le2 : (g.put c' oc).le ((g.put c' oc).put h'.objs.size fO) := Frz.le_put gf
    have le := Frz.le_trans le1 le2
    have nP : ∀ a o, s.heap.get? a = some o → a ∉ C.tabs → (h'.push fO).get? a = some o := fun a o e n => Heap.get?_push_of_some _ (hx a o (fun z => n (z ▸ L.mem)) e)
    have val : ∀ a o, ((g.put c' oc).put h'.objs.size fO) a = some o → (a = h'.objs.size ∧ o = fO) ∨ (a = c' ∧ o = oc) ∨ g a = some o := fun a o e => by
      unfold Frz.put at e
      by_cases z : a = h'.objs.size
      · rw [if_pos z] at e; cases e; exact .inl ⟨z, rfl⟩
      · rw [if_neg z] at e
        by_cases z2 : a = c'
        · rw [if_pos z2] at e; cases e; exact .inr (.inl ⟨z2, rfl⟩)
        · rw [if_neg z2] at e; exact .inr (.inr e)
    have G' : Good C ((g.put c' oc).put h'.objs.size fO) { s with heap := h'.push fO, toks := tk } := by
      refine ⟨fun a o e => ?_, C.mono le G.base, ?_, fun a ha => ?_⟩
      · rcases val a o e with ⟨rfl, rfl⟩ | ⟨rfl, rfl⟩ | e
        · exact Heap.get?_push_size _ rfl
        · exact Heap.get?_push_of_some _ hoc
        · exact Heap.get?_push_of_some _ (hx a o (fun z => by rw [z, hPg] at e; cases e) (G.stays a o e))
      · refine L.grow g s.heap _ _ ps c' oc vs t G.tab hP le (fun a ha hne => ?_) (Heap.get?_push_of_some _ htb) hn ?_ hdc hv
        · obtain ⟨o, ho⟩ := C.tabIn G.tab a ha
          rw [ho]; exact Heap.get?_push_of_some _ (hx a o hne ho)
        · exact le2 _ _ (Frz.put_self ..)
      · have n1 : a ≠ h'.objs.size := fun z => by
          obtain ⟨o, ho⟩ := C.tabIn G.tab a ha
          rw [z, hfg] at ho; cases ho
        have n2 : a ≠ c' := fun z => by
          obtain ⟨o, ho⟩ := C.tabIn G.tab a ha
          rw [z, hc's] at ho; cases ho
        unfold Frz.put; rw [if_neg n1, if_neg n2]; exact G.apart a ha
    refine q _ _ _ ⟨⟨_, tk, rfl⟩, le, fun a o e => ?_, fun a o n e => nP a o e n, G'⟩ ⟨_, _, c', ctv, oc, vs, t, rfl, Frz.put_self .., le2 _ _ (Frz.put_self ..), hdc, hv⟩
    have n1 : a ≠ h'.objs.size := fun z => by rw [z, hfg] at e; cases e
    have n2 : a ≠ c' := fun z => by rw [z, hc's] at e; cases e
    unfold Frz.put; rw [if_neg n1, if_neg n2]
  · refine kla_makeFunctionHit hcl F.glob hns hcode hd hP ht hf hb fun ctv h' tk hk hsz => ?_
    let fO := lamObj qn args body scope ((C.mg "__name__").getD .none) (.ref c') ctv
    have st1 : Step C g s g { s with heap := h', toks := tk } := Step.grew G hk
    have st2 : Step C g { s with heap := h', toks := tk } (g.put h'.objs.size fO) { s with heap := h'.push fO, toks := tk } := Step.push (s := { s with heap := h', toks := tk }) st1.good fO rfl tk
    exact q _ _ _ (st1.trans st2) ⟨_, _, c', ctv, oc, vs, t, rfl, Frz.put_self .., (Frz.le_put st1.good.new) _ _ hoc, hdc, hv⟩

theorem lam_call (hC : ∀ Γ, C.ok Γ) {c P : Addr} {qn : Str} {pos : Pos} {args : Arguments} {body : Expr} {scope : Scope} {p : Str} (L : LamOK C c P qn pos args body scope p) {lam v : Value} {d r : D}
    (hl : IsLam g qn args body scope lam) (he : Ev C k [(p, .local)] (ups (fun _ => none) p d) body r) (rm : Room (k + 1) A) (G : Good C g s) (hv : R g d v) : Gives C A g s (call lam [v]) r := fun E Q q => by
  obtain ⟨fa, pm, c', ctv, oc, vs, t, rfl, hfa, hoc, hdc, hvs⟩ := hl
  refine wpAny_call (kla_callFunE (by have := rm.depth; show A.depth < recursionLimit; simp only [recursionLimit]; omega) (G.stays _ _ hfa) rfl L.co L.gen rfl ⟨c', oc, vs, t, rfl, G.stays _ _ hoc, hdc, hvs⟩ ?_)
  rw [L.bind]
  refine wpAny_pure (wpAny_newFunctionEnv_cells L.kind (fun x hx => ?_) fun env he' s₁ ic => ⟨?_, kla_codeExpr ?_⟩)
  · simp at hx; subst hx
    left; show scope.names.lookup p = _; rw [L.names]; simp
  · exact G.nolimit.keeps ic.toInCall.keep
  · obtain ⟨h1, tk1, e1, k1⟩ := ic.done
    subst e1
    have st0 : Step C g s g { s with heap := h1, toks := tk1 } := Step.grew G k1
    have hks : ∀ x, env.kindOf x = [(p, NameKind.local)].lookup x := fun x => by rw [he']; show scope.names.lookup x = _; rw [L.names]
    have hkp : env.kindOf p = some .local := by rw [hks]; simp
    have honly : ∀ x kd, env.kindOf x = some kd → kd = .local := fun x kd h => by
      rw [hks, List.lookup_cons] at h
      cases hb : x == p with
      | true => rw [hb] at h; cases h; rfl
      | false => rw [hb] at h; simp at h
    have hL : env.locals = s.heap.objs.size := by rw [he']; rfl
    have F : Frame C h1 env (bindL env.kindOf [(p, v)] fun _ => none) := by
      refine ⟨by rw [he']; exact L.kind, by rw [he']; rfl, by rw [he']; rfl, ⟨_, ic.toInCall.ns, fun x hx => rfl⟩, fun x hx => ?_, ?_, fun x y c hx hy => name_of_addr ic.apart (mem_of_lookup hx) (mem_of_lookup hy), fun w hw => ?_⟩
      · rcases hx with hx | hx <;> exact absurd (honly x _ hx) (by decide)
      · rw [hL]; exact G.new_tab
      · have e2 : env.scope.names = [(p, .local)] := by rw [he']; exact L.names
        rw [e2, L.noCode] at hw; cases hw
    have V : Vr g (ups (fun _ => none) p d) (bindL env.kindOf [(p, v)] fun _ => none) := fun x d' h => by
      unfold ups at h
      split at h
      · rename_i hb
        cases h; subst hb
        exact ⟨v, by rw [bindL_lookup _ x hkp _ _ (by simp)]; simp, hv⟩
      · cases h
    have e2 : env.scope.names = [(p, .local)] := by rw [he']; exact L.names
    exact wpC_any hC <| he ⟨env, _, A.deeper env⟩ g _ ⟨e2, F, V, rm.deeper env, st0.good⟩ _ _ fun w g' s' st hw => q w g' s' (st0.trans st) hw
end Mine
end
section
open PySem PySem.W PyProof.Rows
namespace Mine
open Builtin.Re
variable {C : Mod} {A : Around} {g : Frz} {s : Shared} {E : Value → Shared → Prop} {env : Env} {m : Str → Option Value} {k : Nat}

theorem sub_call {a : Addr} {code : Array Nat} {x : List Nat} {t : Tok} {fa : Addr} {fo : Obj} {f : Nat → Nat → List Nat} {out : Nat → List Nat} (S : SubSpec code x f out) (hx : x.length ≤ 1000000) (P : PatAt g a code 1) (G : Good C g s)
    (hf : g fa = some fo) (hfc : fo.cls = .type "function")
    (hlam : ∀ g₁ s₁ v st en b e, Step C g s g₁ s₁ → b ≤ e → e ≤ x.length → R g₁ (.mat x [((st : Nat) : Int), ((en : Nat) : Int), ((b : Nat) : Int), ((e : Nat) : Int)]) v → Gives C A.in1 g₁ s₁ (call (.ref fa) [v]) (.str (f b e))) :
    Gives C A g s (call (.builtin "re.Pattern.sub") [.ref a, .ref fa, .str ⟨x.toArray⟩ t]) (.str (out 0)) := fun E Q q => by
  refine call_entry_again slot_pat_sub (P.typeIs G).1 entry_pat_sub ?_ (args_pat_sub _ _ _)
  unfold Builtin.«re.Pattern.sub» reSubstitute
  refine wpAny_bind (wpAny_of_eq (a := [some (.ref fa), some (.str ⟨x.toArray⟩ t), none]) rfl ?_)
  refine wpAny_bind (wpAny_pure ?_)
  refine wpAny_bind (wpAny_specialOf (T := "function") ⟨fo, G.stays _ _ hf, hfc⟩ hasCall_fn ?_)
  show wpAny C.M A.in1 (do
    let literal ← pure false
    let _ ← holding [Value.ref fa] (reWholeTarget (.ref a) (.str ⟨x.toArray⟩ t))
    reNotHeld "re.Pattern.sub" (.str ⟨x.toArray⟩ t)
    let l ← newList []
    again (.builtin "re.Pattern.sub.loop" ⟨[.ref a, .str ⟨x.toArray⟩ t, .ref fa, rawInt 1, rawInt 0, rawInt 0, rawInt 0, rawInt 0, .bool false, l, .bool false], []⟩)) _ _ s
  refine wpAny_bind (wpAny_pure (wpAny_bind (wpAny_holding (wholeTarget_wp P G (wpAny_bind ?_)))))
  unfold reNotHeld
  refine wpAny_bind (wpAny_isInstance (typeIs_str _ _ _) sub_str_bytearray ?_)
  show wpAny C.M A.in1 (pure PUnit.unit) _ _ s
  refine wpAny_pure ?_
  refine wpAny_bind (wpAny_newList (wpAny_pure ⟨plainId_quiet plain_pat_loop _, ?_⟩) (by rw [sizeLine_is]; simp))
  have L0 : (s.heap.push (listObj [] 0)).get? s.heap.objs.size = some (listObj [] 0) := Heap.get?_push_size _ rfl
  have stn : Step C g s g { s with heap := s.heap.push (listObj [] 0) } := Step.grew (tk := s.toks) G fun a x e => Heap.get?_push_of_some _ e
  refine sub_loop (g := g) (s := s) (n := 0) (p := 0) (ps := []) (vs := []) (ln := 0) S hx hlam G.new G.new_tab (Heap.get?_size _) _ (Nat.le_refl _) (Nat.zero_le _) (stn.toB _) P L0 G.new RL.nil (by simp) (by simp) fun g' s' v st hv => ?_
  exact q v g' s' st (by simpa using hv)
end Mine
end
section
open PySem PySem.W PyProof.Rows
namespace Mine
open Builtin.Re
variable {C : Mod} {A : Around} {g : Frz} {s : Shared} {E : Value → Shared → Prop} {env : Env} {m : Str → Option Value} {k : Nat}

noncomputable def unesc : List Nat → List Nat
  | [] => []
  | [c] => [c]
  | c :: d :: r => if c = 92 ∧ d ≠ 10 then d :: unesc r else c :: unesc (d :: r)
noncomputable def jesc (l : List Nat) : List Nat := l.flatMap fun c => if oddP c then [92, c] else [c]

theorem unesc_esc {x : List Nat} {p : Nat} (h : esc x p) : unesc (x.drop p) = (x.take (p + 2)).drop (p + 1) ++ unesc (x.drop (p + 2)) := by
  refine Classical.byContradiction fun ng0 => ?_
  obtain ⟨h1, d, h2, h3⟩ := h
  have q := lt_some h1
  have q2 := lt_some h2
  have e2 : (x.take (p + 2)).drop (p + 1) = [d] := by
    rw [List.drop_take, show p + 2 - (p + 1) = 1 by omega, List.drop_eq_getElem_cons q2]
    rw [List.getElem?_eq_getElem q2] at h2
    cases h2; rfl
  refine ng0 ?_
  rw [e2, List.drop_eq_getElem_cons q, List.drop_eq_getElem_cons q2]
  rw [List.getElem?_eq_getElem q] at h1
  rw [List.getElem?_eq_getElem q2] at h2
  cases h2
  injection h1 with h1
  rw [h1]
  simp [unesc, h3]
theorem unesc_plain {x : List Nat} {p : Nat} (h : ¬ esc x p) (q : p < x.length) : unesc (x.drop p) = x[p] :: unesc (x.drop (p + 1)) := by
  rw [List.drop_eq_getElem_cons q]
  rcases Nat.lt_or_ge (p + 1) x.length with q2 | q2
  · rw [List.drop_eq_getElem_cons q2]
    have : ¬ (x[p] = 92 ∧ x[p + 1] ≠ 10) := fun ⟨a, b⟩ => h ⟨by rw [List.getElem?_eq_getElem q, a], _, List.getElem?_eq_getElem q2, b⟩
    simp only [unesc, this, if_false]
  · rw [List.drop_eq_nil_of_le q2]; rfl

theorem esc_first (x : List Nat) : ∀ (n p : Nat), x.length - p = n → p ≤ x.length → ((∀ r, p ≤ r → ¬ esc x r) ∧ unesc (x.drop p) = x.drop p) ∨
    ∃ d, esc x (p + d) ∧ (∀ r, p ≤ r → r < p + d → ¬ esc x r) ∧ unesc (x.drop p) = (x.take (p + d)).drop p ++ unesc (x.drop (p + d))
  | 0, p, hn, hp => by
    left
    refine ⟨fun r hr ⟨h1, _⟩ => ?_, ?_⟩
    · have := lt_some h1; omega
    · rw [List.drop_eq_nil_of_le (by omega)]; rfl
  | n + 1, p, hn, hp => by
    by_cases he : esc x p
    · exact .inr ⟨0, he, fun r h1 h2 => by omega, by simp⟩
    · have q : p < x.length := by omega
      rcases esc_first x n (p + 1) (by omega) (by omega) with ⟨h1, h2⟩ | ⟨d, h1, h2, h3⟩
      · left
        refine ⟨fun r hr => ?_, ?_⟩
        · rcases Nat.lt_or_ge p r with z | z
          · exact h1 r z
          · have : r = p := by omega
            rw [this]; exact he
        · rw [unesc_plain he q, h2, ← List.drop_eq_getElem_cons q]
      · right
        refine ⟨d + 1, by rw [show p + (d + 1) = p + 1 + d by omega]; exact h1, fun r hr h4 => ?_, ?_⟩
        · rcases Nat.lt_or_ge p r with z | z
          · exact h2 r z (by omega)
          · have : r = p := by omega
            rw [this]; exact he
        · rw [unesc_plain he q, h3, show p + (d + 1) = p + 1 + d by omega]
          have : (x.take (p + 1 + d)).drop p = x[p] :: (x.take (p + 1 + d)).drop (p + 1) := by
            rw [List.drop_eq_getElem_cons (by simp; omega)]
            simp
          rw [this]; rfl

theorem esc_spec {x : List Nat} (hx : x.length ≤ 1000000) : SubSpec codeEsc x (fun b e => (x.take e).drop b) (fun p => unesc (x.drop p)) := by
  refine ⟨fun p hp => ?_⟩
  have hxl : x.length ≤ lim := by simp only [lim]; omega
  rcases esc_first x _ p rfl hp with ⟨h1, h2⟩ | ⟨d, h1, h2, h3⟩
  · exact .inl ⟨esc_miss hxl h1, h2⟩
  · right
    have l2 := lt_some h1.2.choose_spec.1
    refine ⟨p + d, p + d + 2, p + d + 1, p + d + 2, by omega, by omega, by omega, by omega, by omega, esc_hit hxl h2 h1, ?_, ?_⟩
    · show unesc (x.drop p) = _
      rw [h3, unesc_esc h1, List.append_assoc]
    · simp; omega

theorem odd_first (x : List Nat) : ∀ (n p : Nat), x.length - p = n → p ≤ x.length → ((∀ r, p ≤ r → r < x.length → oddP (x.toArray.getD r 0) = false) ∧ jesc (x.drop p) = x.drop p) ∨
    ∃ d, p + d < x.length ∧ oddP (x.toArray.getD (p + d) 0) = true ∧ (∀ r, p ≤ r → r < p + d → oddP (x.toArray.getD r 0) = false) ∧ jesc (x.drop p) = (x.take (p + d)).drop p ++ ([92] ++ (x.take (p + d + 1)).drop (p + d)) ++ jesc (x.drop (p + d + 1))
  | 0, p, hn, hp => by
    left
    refine ⟨fun r h1 h2 => by omega, ?_⟩
    rw [List.drop_eq_nil_of_le (by omega)]; rfl
  | n + 1, p, hn, hp => by
    have q : p < x.length := by omega
    have eg : x.toArray.getD p 0 = x[p] := by simp [q]
    have ed : jesc (x.drop p) = (if oddP x[p] then [92, x[p]] else [x[p]]) ++ jesc (x.drop (p + 1)) := by
      rw [List.drop_eq_getElem_cons q]; rfl
    cases he : oddP x[p] with
    | true =>
      right
      refine ⟨0, q, by rw [Nat.add_zero, eg, he], fun r h1 h2 => by omega, ?_⟩
      rw [ed, he]
      have e2 : (x.take (p + 1)).drop p = [x[p]] := by
        rw [List.drop_take, show p + 1 - p = 1 by omega, List.drop_eq_getElem_cons q]; rfl
      simp [e2]
    | false =>
      rcases odd_first x n (p + 1) (by omega) (by omega) with ⟨h1, h2⟩ | ⟨d, h0, h1, h2, h3⟩
      · left
        refine ⟨fun r hr hl => ?_, ?_⟩
        · rcases Nat.lt_or_ge p r with z | z
          · exact h1 r z hl
          · have : r = p := by omega
            rw [this, eg, he]
        · rw [ed, he, h2, List.drop_eq_getElem_cons q]; rfl
      · right
        have e1 : p + (d + 1) = p + 1 + d := by omega
        refine ⟨d + 1, by omega, by rw [e1]; exact h1, fun r hr h4 => ?_, ?_⟩
        · rcases Nat.lt_or_ge p r with z | z
          · exact h2 r z (by omega)
          · have : r = p := by omega
            rw [this, eg, he]
        · rw [ed, he, h3, e1]
          have : (x.take (p + 1 + d)).drop p = x[p] :: (x.take (p + 1 + d)).drop (p + 1) := by
            rw [List.drop_eq_getElem_cons (by simp; omega)]
            simp
          rw [this]; simp

theorem jesc_spec {x : List Nat} (hx : x.length ≤ 1000000) : SubSpec codeJEsc x (fun b e => [92] ++ (x.take e).drop b) (fun p => jesc (x.drop p)) := by
  refine ⟨fun p hp => ?_⟩
  rcases odd_first x _ p rfl hp with ⟨h1, h2⟩ | ⟨d, h0, h1, h2, h3⟩
  · exact .inl ⟨jesc_miss h1, h2⟩
  · right
    exact ⟨p + d, p + d + 1, p + d, p + d + 1, by omega, by omega, by omega, by omega, by omega, jesc_hit h2 h1 h0, h3, by simp; omega⟩

theorem sub_expr (hC : ∀ Γ, C.ok Γ) {j : Nat} {cc P : Addr} {qn : Str} {lpos p1 p2 p3 p4 : Pos} {args : Arguments} {body : Expr} {scope : Scope} {p re xn : Str} (L : LamOK C cc P qn lpos args body scope p)
    {a : Addr} {code : Array Nat} {x : List Nat} {f : Nat → Nat → List Nat} {out : Nat → List Nat} {sc : Names} (S : SubSpec code x f out) (hx : x.length ≤ 1000000)
    (hre : sc.lookup re = some .globalImplicit) (hrd : (re == ("__debug__" : Str)) = false) (hmg : C.mg re = some (.ref a)) (hpat : ∀ g, C.Base g → PatAt g a code 1)
    (hxv : isVar (sc.lookup xn) = true) (hxd : (xn == ("__debug__" : Str) || xn == ("__classdict__" : Str)) = false) (hρ : ∃ v, m xn = some v ∧ R g (.str x) v) (hline : (p2.endLine == p4.line) = true)
    (hcode : C.codeOf sc = some (.ref cc, qn)) (hbody : ∀ st en b e, b ≤ e → e ≤ x.length → Ev C j [(p, .local)] (ups (fun _ => none) p (.mat x [((st : Nat) : Int), ((en : Nat) : Int), ((b : Nat) : Int), ((e : Nat) : Int)])) body (.str (f b e)))
    (hsc : env.scope.names = sc) (F : Frame C s.heap env m) (rm : Room (j + 2) A) (G : Good C g s) :
    Gives C A g s (eval (.Call (.Attribute (.Name re p1) "sub" p2) [.Lambda args body scope lpos, .Name xn p3] [] p4) env) (.str (out 0)) := fun E Q q => by
  have hs : starEach [.Lambda args body scope lpos, .Name xn p3] env = [(false, eval (.Lambda args body scope lpos) env), (false, eval (.Name xn p3) env)] := rfl
  obtain ⟨hc1, hc2⟩ := F.code _ (by rw [hsc]; exact hcode)
  refine wpAny_Call_method_lateS (attributeBase_plain rfl) (by rw [hs]; rfl) hline ?_
  refine load_glob F G (by unfold Env.kindOf; rw [hsc]; exact hre) hrd hmg ?_
  have P0 := hpat g G.base
  refine ⟨_, _, plainAttrs_pat, slot_pat_sub, type_pat_sub, (P0.typeIs G).1, (P0.typeIs G).2, ?_⟩
  rw [hs]
  refine Calls.callWith_builtin rfl (Calls.evalArgs_plain (Calls.spliced_cons ?_))
  refine lam_eval L F hc1 hc2 G fun lam g1 s1 st1 hlam => Calls.spliced_cons ?_
  obtain ⟨v, hm, hv⟩ := hρ
  have hv1 := hv.mono st1.grow
  unfold R at hv1; obtain ⟨t, rfl⟩ := hv1
  simp only [Bool.or_eq_false_iff] at hxd
  refine wpAny_Name (load_var (F.step st1) (by unfold Env.kindOf; rw [hsc]; exact hxv) hxd.2 hm (Calls.spliced_nil ?_)) hxd.1
  have hlam' := hlam
  obtain ⟨fa, pm, c', ctv, oc, vs, t', rfl, hfa, hoc, hdc, hvs⟩ := hlam'
  refine sub_call S hx (hpat g1 st1.good.base) st1.good hfa rfl (fun g₂ s₂ v st en b e st₂ hbe hex hv => ?_) E Q fun w g₂ s₂ st₂ hw => q w g₂ s₂ (st1.trans st₂) hw
  exact lam_call hC L (hlam.mono st₂.grow) (hbody st en b e hbe hex) (rm.in1 (k := j + 1)) st₂.good hv

noncomputable def Mod.all (C : Mod) : Mod := { C with ok := fun _ => True, okIn := fun _ _ _ _ _ _ => trivial, okGo := fun _ _ _ _ => trivial }
theorem Mod.all_ok (C : Mod) : ∀ Γ, C.all.ok Γ := fun _ => trivial
theorem Good.all (G : Good C g s) : Good C.all g s := ⟨G.stays, G.base, G.tab, G.apart⟩
theorem Good.back (G : Good C.all g s) : Good C g s := ⟨G.stays, G.base, G.tab, G.apart⟩
theorem Step.back {g' : Frz} {s' : Shared} (x : Step C.all g s g' s') : Step C g s g' s' := ⟨x.same, x.grow, x.fresh, x.keep, x.good.back⟩
theorem Frame.all {h : Heap} (F : Frame C h env m) : Frame C.all h env m := ⟨F.fn, F.glob, F.blt, F.ns, F.cell, F.locT, F.apart, F.code⟩
theorem LamOK.all {cc PT : Addr} {qn : Str} {pos : Pos} {args : Arguments} {body : Expr} {scope : Scope} {p : Str} (h : LamOK C cc PT qn pos args body scope p) : LamOK C.all cc PT qn pos args body scope p :=
  ⟨h.mem, h.head, h.look, h.grow, h.bltn, h.globP, h.defs, h.bind, h.names, h.kind, h.co, h.gen, h.noCode⟩
theorem Gives.ofAll {t : Sem Value} {d : D} (h : Gives C.all A g s t d) : Gives C A g s t d := fun E Q q => h E Q fun v g' s' st hv => q v g' s' st.back hv
theorem e_sub {cc P : Addr} {qn : Str} {lpos p1 p2 p3 p4 : Pos} {args : Arguments} {body : Expr} {scope : Scope} {p re xn : Str} (L : LamOK C cc P qn lpos args body scope p)
    {a : Addr} {code : Array Nat} {x : List Nat} {f : Nat → Nat → List Nat} {out : Nat → List Nat} {sc : Names} {ρ : Ct} (S : SubSpec code x f out) (hx : x.length ≤ 1000000) (hmg : C.mg re = some (.ref a)) (hpat : ∀ g, C.Base g → PatAt g a code 1) (hρ : ρ xn = some (.str x))
    (hcode : C.codeOf sc = some (.ref cc, qn)) (hbody : ∀ st en b e, b ≤ e → e ≤ x.length → Ev C.all k [(p, .local)] (ups (fun _ => none) p (.mat x [((st : Nat) : Int), ((en : Nat) : Int), ((b : Nat) : Int), ((e : Nat) : Int)])) body (.str (f b e)))
    (h1 : (sc.lookup re == some .globalImplicit && !(re == ("__debug__" : Str)) && isVar (sc.lookup xn) && !(xn == ("__debug__" : Str) || xn == ("__classdict__" : Str)) && (p2.endLine == p4.line)) = true) :
    Ev C (k + 2) sc ρ (.Call (.Attribute (.Name re p1) "sub" p2) [.Lambda args body scope lpos, .Name xn p3] [] p4) (.str (out 0)) := fun X g s I => by
  simp only [Bool.and_eq_true, Bool.not_eq_true', beq_iff_eq] at h1
  refine Classical.byContradiction fun ng0 => ?_
  obtain ⟨⟨⟨⟨a1, a2⟩, a3⟩, a4⟩, a5⟩ := h1
  refine ng0 ?_
  exact (Gives.ofAll (sub_expr (Mod.all_ok C) L.all S hx a1 a2 hmg hpat a3 a4 (I.vr xn _ hρ) (beq_iff_eq.mpr a5) hcode hbody I.nm I.fr.all I.rm I.gd.all)).c
end Mine
end
section
open PySem PySem.W PyProof.Rows
set_option maxRecDepth 100000
namespace Mine
variable {prog : Program} {w : World} {A : Around} {E : Value → Shared → Prop} {s : Shared}
set_option maxHeartbeats 4000000 in
theorem fmt_one {y : Str} {t u : Tok} {Q : Value → Shared → Prop} (hy : y.length ≤ 1000000) (h : ∀ t' k, Q (.str (Str.ofString "\"" ++ y ++ Str.ofString "\"") t') { s with toks := k }) :
    wpAny (model prog w) A (binaryOp .Mod (.str (Str.ofString "\"%s\"") t) (.str y u)) Q E s := by
  refine' KPc.mod_str (X' := ⟨#[34, 37, 115, 34]⟩) (T := fun y => Str.ofString "\"" ++ y ++ Str.ofString "\"") ?F hy ?m h
  case F => decide +kernel
  case m => kpc_run_s

end Mine
end
section
open PySem PySem.W PyProof.Rows
set_option maxRecDepth 100000
namespace Mine
variable {C : Mod} {A : Around} {g : Frz} {s : Shared} {E : Value → Shared → Prop} {env : Env} {m : Str → Option Value} {k : Nat}
theorem fv_str {x : Str} {p1 p2 : Pos} {y : Str} {t : Tok} (F : Frame C s.heap env m) (hx : isVar (env.kindOf x) = true) (hxd : (x == ("__debug__" : Str) || x == ("__classdict__" : Str)) = false) (hm : m x = some (.str y t)) (hz : y.length ≤ sizeLine)
    {Q : Value → Shared → Prop} (q : ∀ t' tk, Q (.str y t') { s with toks := tk }) : wpAny C.M A (eval (.FormattedValue (.Name x p1) 115 none p2) env) Q E s := by
  simp only [Bool.or_eq_false_iff] at hxd
  show wpAny C.M A (do let v ← eval (.Name x p1) env; standAt p2; formatted p2 (← holding [v] (converted 115 v)) none) Q E s
  refine wpAny_bind (wpAny_Name (load_var F hx hxd.2 hm ?_) hxd.1)
  refine wpAny_bind (wpAny_standAt ?_)
  show wpAny _ _ (do let v' ← holding [Value.str y t] (habitSame "fstring-hands-on-the-str" (.str y t)); formatField v' Str.empty) Q E s
  refine wpAny_bind (wpAny_holding (habitSame_str (fun t' tk => ?_) hz))
  exact formatField_str (fun t2 tk2 => q t2 tk2) hz
theorem js_sound {sc : Names} {kn vn : Str} {p1 p2 p3 p4 p5 p6 : Pos} {c : Nat} {k v : List Nat} (hk : ∃ w, m kn = some w ∧ R g (.str k) w) (hv : ∃ w, m vn = some w ∧ R g (.str v) w) (lk : k.length ≤ 1000000) (lv : v.length ≤ 1000000)
    (k1 : isVar (sc.lookup kn) = true) (k2 : (kn == ("__debug__" : Str) || kn == ("__classdict__" : Str)) = false) (v1 : isVar (sc.lookup vn) = true) (v2 : (vn == ("__debug__" : Str) || vn == ("__classdict__" : Str)) = false)
    (hsc : env.scope.names = sc) (F : Frame C s.heap env m) (G : Good C g s) :
    Gives C A g s (eval (.JoinedStr [.FormattedValue (.Name kn p1) 115 none p2, .Constant (.str (Str.ofString "=")) c p3, .FormattedValue (.Name vn p4) 115 none p5] p6) env) (.str (k ++ [61] ++ v)) := fun E Q q => by
  refine Classical.byContradiction fun ng0 => ?_
  obtain ⟨wk, mk, rk⟩ := hk
  obtain ⟨wv, mv, rv⟩ := hv
  refine ng0 ?_
  unfold R at rk rv
  refine Classical.byContradiction fun ng0 => ?_
  obtain ⟨tk, rfl⟩ := rk
  obtain ⟨tv, rfl⟩ := rv
  have hkk : isVar (env.kindOf kn) = true := by unfold Env.kindOf; rw [hsc]; exact k1
  have hvv : isVar (env.kindOf vn) = true := by unfold Env.kindOf; rw [hsc]; exact v1
  have zk : (⟨k.toArray⟩ : Str).length ≤ sizeLine := by rw [sizeLine_is]; show k.toArray.size ≤ _; rw [List.size_toArray]; omega
  have zv : (⟨v.toArray⟩ : Str).length ≤ sizeLine := by rw [sizeLine_is]; show v.toArray.size ≤ _; rw [List.size_toArray]; omega
  have e1 : (Str.ofString "=").cps.toList = [61] := by decide +kernel
  have eEq : Str.ofString "=" = ⟨#[61]⟩ := by decide +kernel
  have L : ∀ a b : Str, (a ++ b).cps.toList = a.cps.toList ++ b.cps.toList := fun a b => by
    show (a.cps ++ b.cps).toList = _; simp
  have S : ∀ a : Str, a.length = a.cps.toList.length := fun a => by show a.cps.size = _; simp
  refine ng0 ?_
  refine wpAny_JoinedStr ?_
  show Joins _ _ _ [_, _, _] _ _ _
  unfold Joins
  refine fv_str F hkk k2 mk zk fun t1 tk1 => ⟨_, t1, rfl, ?_, ?_⟩
  · rw [S, L, sizeLine_is]; simp [Str.empty]; omega
  unfold Joins
  refine wpAny_Constant_str ⟨_, _, rfl, ?_, ?_⟩
  · rw [S, L, L, e1, sizeLine_is]; simp [Str.empty]; omega
  unfold Joins
  refine fv_str (s := { s with toks := tk1 + 1 }) F hvv v2 mv zv fun t2 tk2 => ⟨_, t2, rfl, ?_, ?_⟩
  · rw [S, L, L, L, e1, sizeLine_is]; simp [Str.empty]; omega
  unfold Joins
  refine ⟨by rw [S, L, L, L, e1, sizeLine_is]; simp [Str.empty]; omega, ?_⟩
  have eo : Str.empty ++ ⟨k.toArray⟩ ++ Str.ofString "=" ++ ⟨v.toArray⟩ = (⟨(k ++ [61] ++ v).toArray⟩ : Str) := by
    apply Str.ext'
    apply Array.toList_inj.mp
    rw [L, L, L, e1]
    simp [Str.empty]
  rw [eo]
  exact q _ _ _ (Step.toks G _) ⟨_, rfl⟩
theorem bi_fmt {x : List Nat} (hz : x.length ≤ 1000000) : Bin C k .Mod (.str [34, 37, 115, 34]) (.str x) (.str ([34] ++ x ++ [34])) := fun A g s u v _ G hu hv E Q q => by
  obtain ⟨t, rfl⟩ := hu
  obtain ⟨w, rfl⟩ := hv
  have L : ∀ a b : Str, (a ++ b).cps.toList = a.cps.toList ++ b.cps.toList := fun a b => by
    show (a.cps ++ b.cps).toList = _; simp
  have e1 : (⟨[34, 37, 115, 34].toArray⟩ : Str) = Str.ofString "\"%s\"" := by decide +kernel
  have e2 : (Str.ofString "\"").cps.toList = [34] := by decide +kernel
  rw [e1]
  refine fmt_one (by show x.toArray.size ≤ _; rw [List.size_toArray]; exact hz) fun t' k => ?_
  have eo : Str.ofString "\"" ++ ⟨x.toArray⟩ ++ Str.ofString "\"" = (⟨([34] ++ x ++ [34]).toArray⟩ : Str) := by
    apply Str.ext'
    apply Array.toList_inj.mp
    rw [L, L, e2]
  rw [eo]
  exact q _ _ _ (Step.toks G _) ⟨_, rfl⟩
theorem e_js {sc : Names} {ρ : Ct} {kn vn : Str} {p1 p2 p3 p4 p5 p6 : Pos} {c : Nat} {x v : List Nat} (hk : ρ kn = some (.str x)) (hv : ρ vn = some (.str v)) (lk : x.length ≤ 1000000) (lv : v.length ≤ 1000000)
    (h : (isVar (sc.lookup kn) && !(kn == ("__debug__" : Str) || kn == ("__classdict__" : Str)) && isVar (sc.lookup vn) && !(vn == ("__debug__" : Str) || vn == ("__classdict__" : Str))) = true) :
    Ev C k sc ρ (.JoinedStr [.FormattedValue (.Name kn p1) 115 none p2, .Constant (.str (Str.ofString "=")) c p3, .FormattedValue (.Name vn p4) 115 none p5] p6) (.str (x ++ [61] ++ v)) := fun X g s I => by
  rw [Bool.and_eq_true, Bool.and_eq_true, Bool.and_eq_true, Bool.not_eq_true', Bool.not_eq_true'] at h
  exact (js_sound (I.vr _ _ hk) (I.vr _ _ hv) lk lv h.1.1.1 h.1.1.2 h.1.2 h.2 I.nm I.fr I.gd).c
theorem e_orT {sc : Names} {ρ : Ct} {x y p a} (hx : Ev C k sc ρ x a) (ht : Tru C a true) : Ev C k sc ρ (.BoolOp .Or [x, y] p) a := fun X g s I E Q q => by
  rw [arm_eval_BoolOp]
  exact wpC_bind (hx X g s I E _ fun v g1 s1 t1 hv => wpC_bind (wpC_standAt (wpC_bind (wpC_holding (wpC_of <| ht X.A g1 s1 v _ _ t1.good hv fun s2 t2 => wpC_pure (q _ _ _ (t1.trans t2) hv))))))
theorem e_orF {sc : Names} {ρ : Ct} {x y p a b} (hx : Ev C k sc ρ x a) (ht : Tru C a false) (hy : Ev C k sc ρ y b) : Ev C k sc ρ (.BoolOp .Or [x, y] p) b := fun X g s I E Q q => by
  rw [arm_eval_BoolOp]
  exact wpC_bind (hx X g s I E _ fun v g1 s1 t1 hv => wpC_bind (wpC_standAt (wpC_bind (wpC_holding (wpC_of <| ht X.A g1 s1 v _ _ t1.good hv fun s2 t2 => hy X g1 s2 (I.st (t1.trans t2)) E Q fun w g3 s3 t3 hw => q _ _ _ (t1.trans (t2.trans t3)) hw)))))
theorem e_pat {sc : Names} {ρ : Ct} {x p a} (hm : C.mg x = some (.ref a)) (h : (sc.lookup x == some .globalImplicit && !(x == ("__debug__" : Str))) = true) : Ev C k sc ρ (.Name x p) (.pat a) := by
  rw [Bool.and_eq_true, Bool.not_eq_true', beq_iff_eq] at h
  exact e_glob h.1 h.2 hm fun _ _ => rfl
section
variable {a : Addr} {x : List Nat}
theorem mg_tok (P : ∀ g, C.Base g → PatAt g a codeTok 1) (hx : x.length ≤ lim) (hn : x ≠ []) : MethG C k (.pat a) "search" [.str x] (findTok x) := fun A g s ov _ G hv => by
  cases (show ov = .ref a from hv); exact tok_meth (P g G.base) G hx hn
theorem mg_val (P : ∀ g, C.Base g → PatAt g a codeVal 1) (hx : x.length ≤ lim) : MethG C k (.pat a) "search" [.str x] (findVal x) := fun A g s ov _ G hv => by
  cases (show ov = .ref a from hv); exact val_meth (P g G.base) G hx
theorem mg_quo (P : ∀ g, C.Base g → PatAt g a codeQuo 1) (hx : x.length ≤ 1000000) : MethG C k (.pat a) "search" [.str x] (findQuo x) := fun A g s ov _ G hv => by
  cases (show ov = .ref a from hv); exact quo_meth (P g G.base) G hx
theorem mg_full (P : ∀ g, C.Base g → PatAt g a codeJTok 0) (hx : x.length ≤ lim) : MethG C k (.pat a) "fullmatch" [.str x] (fullTok x) := fun A g s ov _ G hv => by
  cases (show ov = .ref a from hv); exact full_meth (P g G.base) G hx
theorem mg_subn (P : ∀ g, C.Base g → PatAt g a codeTwin 0) (hx : x.length ≤ 1000000) (h0 : 0 < span junkP x) : MethG C k (.pat a) "subn" [.str [], .str x] (.tuple [.str (x.drop (span junkP x)), .int 1]) := fun A g s ov _ G hv => by
  cases (show ov = .ref a from hv); exact subn_meth (P g G.base) G hx rfl h0
end
end Mine
end
section
open PySem PySem.W PyProof.Rows
namespace Mine
variable {C : Mod} {k : Nat} {sc : Names} {ρ : Ct}
theorem e_isM (M : Bs C) {x tp fp pos xs} (hx : Ev C k sc ρ x (.list xs)) (hs : isStar x = false) (h : (sc.lookup ("isinstance" : Str) == some .globalImplicit && sc.lookup ("str" : Str) == some .globalImplicit) = true) : Ev C k sc ρ (.Call (.Name "isinstance" fp) [x, .Name "str" tp] [] pos) (.bool false) := by
  rw [Bool.and_eq_true, beq_iff_eq, beq_iff_eq] at h
  exact e_isi hx hs h.1 h.2 ⟨(M.at bv_isi).1, (M.at bv_isi).2⟩ (M.at bv_strT)
theorem t_eq {e b b'} (h : EvT C k sc ρ e b) (q : b = b') : EvT C k sc ρ e b' := q ▸ h
theorem x_ifC {σ : Store} {t b o pos r c} {K : Store → Fl → Prop} {J : Store → Prop} (ht : EvT C k sc (fz σ) t c) (hT : c = true → Ex C k sc σ b fun σ' fl => fl = .nxt ∧ J σ') (hF : c = false → Ex C k sc σ o fun σ' fl => fl = .nxt ∧ J σ') (hr : ∀ σ', J σ' → Ex C k sc σ' r K) : Ex C k sc σ (.If t b o pos :: r) K :=
  x_cons (K' := fun σ' fl => fl = .nxt ∧ J σ') (by
    cases c with
    | true => exact s_ifT ht (hT rfl)
    | false => exact s_ifF ht (hF rfl)) (fun σ' h => hr σ' h.2) fun _ _ h => by cases h.1
end Mine
end
section
open PySem PySem.W PyProof.Rows
set_option maxRecDepth 100000
set_option maxHeartbeats 4000000
namespace Mine
set_option compiler.extract_closed false
local macro_rules | `(tactic| walk_at "ev") => do
  let ts ← ("-up_hd -lk_hd -pt_hd ? -e_int -e_none -e_bool -o_none -l_nil -r_nil -ts_nil  up_tl  lk_tl  pt_tl  in_of  fz_of *e_pat  e_var  e_bin  e_not  e_neg  e_cmp  e_list  e_tuple  e_slice  e_ifS  len_map =lt0 =lt1 =lt2 =lt3 =lt4 =lt5 =lt6 =lt7 =lt8 =lt9 =lt10 =lt11 =lt12 =lt13 =lt14 =lt15 =lt16 =lt17 =lt18 =lt19 =lt20  e_b_len  e_b_ord  e_b_chr  e_t_bytes  e_t_range  e_isM  e_isB  e_meth  e_att  e_f  t_cmp  t_not  t_bo  a_and -a_nilA  t_val  comp1 !ts_nil !bnd1 !bnd2  bnd1  bnd2  l_cons  r_of  o_some  ts_one  bi_md12  bi_fmt  bi_sn  bi_s1  b_oct  m_joinE -bi_int -bi_sub  bi_str  bi_list -at_string -m_span -m_startswith  m_lstrip  m_rstrip  m_join  ss_to  ss_from  ss_nm  ss_one  ss_rev  sl_to  sl_from  sl_rev  it_list  it_str  it_bytes  bl_str  bl_list  bl_bytes  b_bytesb -b_chr -p_ord -p_item_tup0 -p_item_tup1 -p_item_list0 -c_eqi -c_in34 -c_in12 -c_in -c_ni -c_lt -c_les -c_is1 -c_is2 -c_no1 -c_no2 -c_gt -tr_mat -tr_none -tr_bool  tr_str  tr_list".replace "  " " _").splitOn " " |>.toArray.mapM fun x => do
    let i := Lean.mkIdent (.mkSimple (x.drop 1).toString)
    match x.front with
    | '-' => `(tacticSeq| exact $i)
    | '=' => `(tacticSeq| exact e_lit $i)
    | '*' => `(tacticSeq| refine' $i (by assumption) ..)
    | '!' => `(tacticSeq| refine' fun _ _ => $i ..)
    | '?' => `(tacticSeq| show (_ : Prop); assumption)
    | _ => `(tacticSeq| refine' $i ..)
  `(tactic| repeat' with_reducible first $[| $ts]* | (show ∀ _ ∈ _, Ev _ _ _ _ _ _; intro _ _) | (show ∀ _ ∈ _, _ = true; intro _ _) | (show ∀ _ ∈ _, _ = false; intro _ _) | exact len_nil | (show List.length (_ :: _) ≤ lim; exact Nat.le_of_ble_eq_true rfl) | (show _ = _; exact rfl) | refine' e_item .. | (show _ = true; kernel_rfl) | (show _ = false; kernel_rfl))
section
open PySem PySem.W PyProof.Rows
set_option maxRecDepth 100000
variable {C : Mod} {k : Nat}
noncomputable def markS (odd : T) (c : Nat) : T := if odd.contains c = true then [92] ++ [c] else [c]
theorem markS_len (odd : T) (c : Nat) : (markS odd c).length ≤ 2 := by unfold markS; split <;> simp
theorem flatMap_len {f : Nat → T} {k : Nat} (h : ∀ c, (f c).length ≤ k) : ∀ l : T, (l.flatMap f).length ≤ k * l.length
  | [] => by simp
  | c :: l => by
    have := flatMap_len h l
    have := h c
    rw [List.flatMap_cons, List.length_append, List.length_cons, Nat.mul_add, Nat.mul_one]; omega
theorem ev_unmatched (x : T) (a b : Nat) (sp : List Int) (hx : x.length ≤ 1000000) : Ex C k (namesOf "unmatched") [("match", .frz (.mat x ((a : Int) :: (b : Int) :: sp)))] (bodyOf "unmatched") fun _ fl => fl = .ret (.str (x.take a ++ x.drop b)) := by
  conv in (bodyOf _) => whnf
  conv in (namesOf _) => whnf
  have h0 := zlt hx
  have h1 : (x.take a).length + (x.drop b).length ≤ lim := by rw [List.length_take, List.length_drop]; simp only [lim]; omega
  refine x_seq (s_two (a := .int a) (b := .int b) ?_ ?_ ?_ ?_ ?_ (fun _ _ _ h => by cases h)) (x_ret (d := .str (x.take a ++ x.drop b)) ?_ rfl) <;> walk_at "ev"
end
section
open PySem PySem.W PyProof.Rows
/-! exceptions in flight -/
noncomputable def wipe (h : Heap) : List Addr → Heap
  | [] => h
  | a :: l => (wipe h l).update a fun o => { o with data := .freed }
theorem wipe_in {h : Heap} {a : Addr} : ∀ {l : List Addr}, a ∈ l → (wipe h l).get? a = none
  | b :: l, q => by
    show ((wipe h l).update b fun o => { o with data := .freed }).get? a = none
    by_cases e : b = a
    · subst e
      cases hx : ((wipe h l).update b fun o => { o with data := .freed }).get? b with
      | none => rfl
      | some o =>
        obtain ⟨e1, e2⟩ := Heap.get?_some_iff.mp hx
        cases hw : wipe h l with
        | mk objs life =>
          rw [hw] at e1
          simp only [Heap.update, Array.getElem?_modify, if_true, Option.map_eq_some_iff] at e1
          obtain ⟨o', _, rfl⟩ := e1
          cases e2
    · rw [Heap.get?_update_other _ _ e]
      rcases List.mem_cons.mp q with q | q
      · exact absurd q.symm e
      · exact wipe_in q
theorem wipe_out {h : Heap} {a : Addr} : ∀ {l : List Addr}, a ∉ l → (wipe h l).get? a = h.get? a
  | [], _ => rfl
  | b :: l, q => by
    show ((wipe h l).update b fun o => { o with data := .freed }).get? a = _
    rw [Heap.get?_update_other _ _ (show ¬ b = a from fun e => q (by rw [e]; exact .head _))]
    exact wipe_out fun z => q (.tail _ z)
noncomputable abbrev frs (l : List Env) : List Addr := l.filterMap (·.frame)
inductive Raw (base : Heap) (l : List Env) (cls : String) (e : Addr) (h : Heap) : Prop
  | mk (oe : Obj) (vs : Array Value) (a0 : Value) (_ : base.StaysIn h) (_ : base.get? e = none) (_ : h.FunFrames base l) (_ : h.get? e = some oe) (_ : oe.cls = .type cls) (_ : oe.data = .fields vs) (_ : vs[1]? = some .none) (_ : vs[0]? = some a0)
noncomputable def Fly (base : Heap) (l : List Env) (cls : String) (e : Addr) (h : Heap) : Prop := ∃ a0, Heap.FlyingW base l e (.type cls) a0 h
noncomputable def Hld (base : Heap) (l : List Env) (cls : String) (L e : Addr) (h : Heap) : Prop := ∃ a0, Heap.HeldW base l e (.type cls) a0 L h
noncomputable def Up (base : Heap) (l : List Env) (cls : String) (L e : Addr) (h : Heap) : Prop := Raw base l cls e h ∨ Fly base l cls e h ∨ Hld base l cls L e h
section
variable {M : Model} {A : Around} {E : Value → Shared → Prop} {s : Shared} {base : Heap} {env : Env} {outer : List Env} {L e : Addr} {cls : String} {Q : Unit → Shared → Prop}
theorem up_note (hfr : A.frames = some (env :: outer)) (hf : env.frame = some L) (U : Up base (env :: outer) cls L e s.heap)
    (h : ∀ h', Hld base (env :: outer) cls L e h' → s.heap.UpToSlots h' → Q () { s with heap := h' }) : wpAny M A (noteFrame (.ref e) env) Q E s := by
  rcases U with ⟨oe, vs, a0, u1, u2, u3, u4, u5, u6, u7, u8⟩ | ⟨a0, U⟩ | ⟨a0, U⟩
  · unfold noteFrame
    simp only [hf]
    refine wpAny_bind (wpAny_field u4 u6 u7 ?_)
    rw [if_neg (by decide)]
    exact wpAny_entryW hfr u3 hf u4 u1 u2 u6 (Array.getElem?_eq_some_iff.mp u7).1 u8 fun h' ⟨k1, k2, k3, k4⟩ => h h' ⟨a0, k1, u2, k2, u5 ▸ k3⟩ k4
  · exact wpAny_looks_onW hfr hf U fun h' k1 k2 => h h' ⟨a0, k1⟩ k2
  · exact wpAny_noteFrame_againW hf U.2.2.2 (h s.heap ⟨a0, U⟩ (.refl _))
theorem hld_lands {l : List Env} (U : Hld base l cls L e s.heap) (h : ∀ h', Fly base l cls e h' → s.heap.UpToSlots h' → Q () { s with heap := h' }) : wpAny M A (setFlight (.ref e) none) Q E s :=
  let ⟨a0, U⟩ := U
  wpAny_landsW U fun h' k1 k2 => h h' ⟨a0, k1⟩ k2
theorem Fly.tail (U : Fly base (env :: outer) cls e s.heap) : Fly base outer cls e s.heap :=
  let ⟨a0, k1, k2, ⟨_, _, k3⟩, k4⟩ := U
  ⟨a0, k1, k2, k3, k4⟩
theorem up_leave (hfr : A.frames = some (env :: outer)) (hf : env.frame = some L) (U : Up base (env :: outer) cls L e s.heap)
    (h : ∀ h', Fly base outer cls e h' → s.heap.UpToSlots h' → Q () { s with heap := h' }) : wpAny M A (leaving env (.ref e)) Q E s := by
  unfold leaving
  refine wpAny_bind (up_note hfr hf U fun h1 U1 k1 => hld_lands (s := { s with heap := h1 }) U1 fun h2 U2 k2 => ?_)
  exact h h2 (Fly.tail (s := { s with heap := h2 }) U2) (k1.trans k2)
theorem hld_came (hf : env.frame = some L) {l : List Env} (U : Hld base l cls L e s.heap) (h : ∀ h', Hld base l cls L e h' → s.heap.UpToSlots h' → E (.ref e) { s with heap := h' }) : cameBackBy M A env E (.ref e) s := by
  obtain ⟨a0, f1, f2, f3, oe, vs, T, oT, ts, he, hcls, hd, h1, hnT, hTe, hT, hdT, h3⟩ := U
  have hsz3 : 3 < ts.size := (Array.getElem?_eq_some_iff.mp h3).1
  have other : ∀ b, b ≠ T → (s.heap.update T (Obj.mapFields (·.setIfInBounds 3 ((some L : Option Addr).elim Value.none fun f => rawInt f)))).get? b = s.heap.get? b := fun b hb => Heap.get?_update_other _ _ (Ne.symm hb)
  have noRecord : ∀ b o, s.heap.get? b = some o → (∀ vs, o.data ≠ .fields vs) → b ≠ T := fun b o hb hnf q => by
    rw [q, hT] at hb; injection hb with hb; subst hb; exact hnf ts hdT
  unfold cameBackBy
  refine wpAny_bind (wpAny_field he hd h1 ?_)
  rw [if_neg (show ¬ ((Value.ref T == Value.none) = true) from by simp)]
  rw [hf]
  unfold setFlight
  refine wpAny_bind (wpAny_field he hd h1 ?_)
  rw [if_pos (show (Value.ref T != Value.none) = true from by simp)]
  refine wpAny_setField hT hdT hsz3 (h _ ⟨a0, fun b o hbo => (other b fun q => by rw [q, hnT] at hbo; cases hbo).trans (f1 b o hbo), f2, f3.of_keeps fun b o hb hnf => ⟨o, (other b (noRecord b o hb hnf)).trans hb, rfl⟩, ?_⟩ fun b o hb hn => ⟨o.slots, (other b (noRecord b o hb hn)).trans hb⟩)
  exact ⟨oe, vs, T, _, _, (other e (Ne.symm hTe)).trans he, hcls, hd, h1, hnT, hTe, Heap.get?_update_self _ hT (Obj.isFreed_of_fields (Obj.data_mapFields hdT _)), Obj.data_mapFields hdT _, by simp [hsz3]⟩
end
end
section
open PySem PySem.W PyProof.Rows
variable {C : Mod} {k : Nat} {sc : Names} {X : Cf C k sc} {σ σ' : Store} {p : St} {g g' : Frz} {s s' : Shared} {A : Around} {E : Value → Shared → Prop} {l outer : List Env} {cls : String}
noncomputable def FrOK (C : Mod) (g : Frz) (h : Heap) (l : List Env) : Prop := ∀ env ∈ l, env.scope.kind ≠ .module ∧ ∃ L o, env.frame = some L ∧ h.get? L = some o ∧ (∀ vs, o.data ≠ .fields vs) ∧ g L = none ∧ L ∉ C.tabs
theorem FrOK.at (h : FrOK C g s.heap l) {b : Addr} (hb : b ∈ frs l) : ∃ o, s.heap.get? b = some o ∧ (∀ vs, o.data ≠ .fields vs) ∧ g b = none ∧ b ∉ C.tabs := by
  obtain ⟨env, he, hf⟩ := List.mem_filterMap.mp hb
  obtain ⟨_, L, o, h1, h2, h3, h4, h5⟩ := h env he
  rw [h1] at hf; cases hf
  exact ⟨o, h2, h3, h4, h5⟩
theorem FrOK.step (h : FrOK C g s.heap l) (t : Step C g s g' s') : FrOK C g' s'.heap l := fun env he =>
  let ⟨h0, L, o, h1, h2, h3, h4, h5⟩ := h env he
  ⟨h0, L, o, h1, t.keep L o h5 h2, h3, (t.fresh L o h2).trans h4, h5⟩
theorem FrOK.funFrames {h base : Heap} : ∀ {l : List Env}, FrOK C g h l → (∀ b ∈ frs l, base.get? b = none) → h.FunFrames base l
  | [], _, _ => trivial
  | env :: l, H, hb => by
    obtain ⟨h0, L, o, h1, h2, h3, _⟩ := H env (.head _)
    refine ⟨h0, ⟨L, o, h1, hb L ?_, h2, h3⟩, FrOK.funFrames (fun e he => H e (.tail _ he)) fun b q => hb b ?_⟩
    · rw [frs, List.filterMap_cons, h1]; exact .head _
    · rw [frs, List.filterMap_cons, h1]; exact .tail _ q
inductive Thrown (C : Mod) (g : Frz) (s : Shared) (l : List Env) (U : Heap → Addr → Heap → Prop) (v : Value) (s' : Shared) : Prop
  | mk (base : Heap) (g' : Frz) (e : Addr) (h : Heap) (tk : Nat) (_ : v = .ref e) (_ : s' = { s with heap := h, toks := tk }) (_ : g.le g') (_ : ∀ b o, s.heap.get? b = some o → g' b = g b)
      (_ : ∀ b o, s.heap.get? b = some o → b ∉ C.tabs → b ∉ frs l → base.get? b = some o) (_ : Good C g' { s with heap := base, toks := tk }) (_ : U base e h)
      (_ : ∀ b ∈ frs l, ∀ o, s.heap.get? b = some o → (∀ vs, o.data ≠ .fields vs) → ∃ sl, h.get? b = some { o with slots := sl })
theorem Thrown.new (F : FrOK C g s.heap l) (G : Good C g s) {h : Heap} {e : Addr} {tk : Nat} (x : Heap.NewExc s.heap h e cls) : Thrown C g s l (fun b e h => Raw b l cls e h) (.ref e) { s with heap := h, toks := tk } := by
  refine ⟨wipe s.heap (frs l), g, e, h, tk, rfl, rfl, g.le_refl, fun _ _ _ => rfl, fun b o hb _ n => (wipe_out n).trans hb, ⟨fun b o hb => ?_, G.base, C.tabKeep g.le_refl (fun b hb => ?_) G.tab, G.apart⟩, ?_, fun b _ o hb _ => ⟨o.slots, x.keeps b o hb⟩⟩
  · refine (wipe_out fun q => ?_).trans (G.stays b o hb)
    obtain ⟨_, _, _, q, _⟩ := F.at q
    rw [q] at hb; cases hb
  · exact wipe_out fun q => (F.at q).elim fun _ z => z.2.2.2 hb
  · refine Classical.byContradiction fun ng0 => ?_
    obtain ⟨ob, t, h1, h2, h3⟩ := x.there
    have old : ∀ b o, (wipe s.heap (frs l)).get? b = some o → s.heap.get? b = some o := fun b o hb => by
      by_cases q : b ∈ frs l
      · rw [wipe_in q] at hb; cases hb
      · exact (wipe_out q).symm.trans hb
    refine ng0 ⟨ob, _, t, fun b o hb => x.keeps b o (old b o hb), ?_, FrOK.funFrames (g := g) (C := C) (fun env he => ?_) fun b q => wipe_in q, h1, h2, h3, rfl, rfl⟩
    · cases hq : (wipe s.heap (frs l)).get? e with
      | none => rfl
      | some o => have := old e o hq; rw [x.new] at this; cases this
    · obtain ⟨q0, L, o, q1, q2, q3⟩ := F env he
      exact ⟨q0, L, o, q1, x.keeps _ _ q2, q3⟩
theorem Thrown.pre {U : Heap → Addr → Heap → Prop} {v : Value} {s'' : Shared} (F : FrOK C g s.heap l) (t : Step C g s g' s') (T : Thrown C g' s' l U v s'') : Thrown C g s l U v s'' := by
  refine Classical.byContradiction fun ng0 => ?_
  obtain ⟨base, g2, e, h, tk, e1, e2, t1, t2, t3, t4, t5, t6⟩ := T
  obtain ⟨h', tk', e3⟩ := t.same
  refine ng0 ⟨base, g2, e, h, tk, e1, by rw [e2, e3], Frz.le_trans t.grow t1, fun b o hb => ?_, fun b o hb n m => t3 b o (t.keep b o n hb) n m, by rw [e3] at t4; exact t4, t5, fun b hb o ho hn => t6 b hb o (t.keep b o (F.at hb).choose_spec.2.2.2 ho) hn⟩
  by_cases q : b ∈ C.tabs
  · rw [t4.apart b q, ← t.fresh b o hb, t.good.apart b q]
  · exact (t2 b o (t.keep b o q hb)).trans (t.fresh b o hb)
theorem Thrown.on {U U' : Heap → Addr → Heap → Prop} {v : Value} (T : Thrown C g s l U v s') {h2 : Heap} (hU : ∀ base e, U base e s'.heap → v = .ref e → U' base e h2 ∧ s'.heap.UpToSlots h2) : Thrown C g s l U' v { s' with heap := h2 } := by
  refine Classical.byContradiction fun ng0 => ?_
  obtain ⟨base, g2, e, h, tk, e1, e2, t1, t2, t3, t4, t5, t6⟩ := T
  subst e2
  obtain ⟨u1, u2⟩ := hU base e t5 e1
  refine ng0 ⟨base, g2, e, h2, tk, e1, rfl, t1, t2, t3, t4, u1, fun b hb o ho hn => ?_⟩
  obtain ⟨sl, hs⟩ := t6 b hb o ho hn
  obtain ⟨sl', hs'⟩ := u2 b _ hs hn
  exact ⟨sl', hs'⟩
theorem Thrown.weak {U U' : Heap → Addr → Heap → Prop} {v : Value} (T : Thrown C g s l U v s') (hU : ∀ base e h, U base e h → U' base e h) : Thrown C g s l U' v s' := by
  obtain ⟨base, g2, e, h, tk, e1, e2, t1, t2, t3, t4, t5, t6⟩ := T
  exact ⟨base, g2, e, h, tk, e1, e2, t1, t2, t3, t4, hU _ _ _ t5, t6⟩
structure FX (X : Cf C k sc) (outer : List Env) : Prop where
  fr : X.A.frames = some (X.env :: outer)
  own : X.env.frame = some X.env.locals
  old : ∀ b o, X.s₀.heap.get? b = some o → b ∉ C.tabs → X.B b = some o
  ok : FrOK C X.g₀ X.s₀.heap outer
  good : Good C X.g₀ X.s₀
theorem FX.at (F : FX X outer) (I : Inv X σ p) : FrOK C p.g p.s.heap (X.env :: outer) := fun env he => by
  rcases List.mem_cons.mp he with rfl | he
  · refine Classical.byContradiction fun ng0 => ?_
    obtain ⟨o, es, ep, ho, hd⟩ := I.locl
    refine ng0 ?_
    exact ⟨(by rw [I.frame.fn]; decide), _, o, F.own, ho, (fun vs q => by rw [hd] at q; cases q), I.loc.2, I.frame.locT⟩
  · obtain ⟨h0, L, o, h1, h2, h3, h4, h5⟩ := F.ok env he
    have := F.old L o h2 h5
    exact ⟨h0, L, o, h1, I.keep L o this, h3, (I.fresh L o this).trans h4, h5⟩
theorem FX.new (F : FX X outer) (I : Inv X σ p) : X.s₀.heap.get? X.env.locals = none := by
  cases e : X.s₀.heap.get? X.env.locals with
  | none => rfl
  | some o => have := F.old _ o e I.frame.locT; rw [I.loc.1] at this; cases this
theorem Thrown.start {U : Heap → Addr → Heap → Prop} {v : Value} (F : FX X outer) (I : Inv X σ p) (T : Thrown C p.g p.s (X.env :: outer) U v s') : Thrown C X.g₀ X.s₀ (X.env :: outer) U v s' := by
  refine Classical.byContradiction fun ng0 => ?_
  have FF := F.at I
  obtain ⟨base, g2, e, h, tk, e1, e2, t1, t2, t3, t4, t5, t6⟩ := T
  obtain ⟨h', tk', e3⟩ := I.same
  refine ng0 ⟨base, g2, e, h, tk, e1, by rw [e2, e3], Frz.le_trans I.grow t1, fun b o hb => ?_, fun b o hb n m => t3 b o (I.keep b o (F.old b o hb n)) n m, by rw [e3] at t4; exact t4, t5, fun b hb o ho hn => t6 b hb o (I.keep b o (F.old b o ho (FF.at hb).choose_spec.2.2.2)) hn⟩
  by_cases q : b ∈ C.tabs
  · rw [t4.apart b q, F.good.apart b q]
  · have := F.old b o hb q
    exact (t2 b o (I.keep b o this)).trans (I.fresh b o this)
noncomputable def CallX (C : Mod) (k : Nat) (v : Value) (ds : List D) (cls : String) : Prop := ∀ A g s vs fs (E Q : Value → Shared → Prop), Room k A → Good C g s → RL g ds vs → A.frames = some fs → FrOK C g s.heap fs → (∀ e s', Thrown C g s fs (fun b e h => Fly b fs cls e h) e s' → E e s') → wpC C A (call v vs) Q E s
inductive FnX (C : Mod) (k : Nat) (f : Str) (ds : List D) (cls : String) : Prop
  | mk (a : Addr) (o : Obj) (fd : FuncData) (_ : C.mg f = some (.ref a)) (_ : ∀ g, C.Base g → g a = some o) (_ : o.data = .func fd) (_ : CallX C k (.ref a) ds cls)
noncomputable abbrev UpX (X : Cf C k sc) (outer : List Env) (cls : String) : Heap → Addr → Heap → Prop := fun b e h => Up b (X.env :: outer) cls X.env.locals e h
noncomputable def ExX (C : Mod) (k : Nat) (sc : Names) (σ : Store) (b : List Stmt) (cls : String) : Prop := ∀ (X : Cf C k sc) outer p (E : Value → Shared → Prop) (Q : Flow → Shared → Prop), Inv X σ p → FX X outer → (∀ e s', Thrown C X.g₀ X.s₀ (X.env :: outer) (UpX X outer cls) e s' → E e s') → wpC C X.A (execs b X.env) Q E p.s
noncomputable def EsX (C : Mod) (k : Nat) (sc : Names) (σ : Store) (b : Stmt) (cls : String) : Prop := ∀ (X : Cf C k sc) outer p (E : Value → Shared → Prop) (Q : Flow → Shared → Prop), Inv X σ p → FX X outer → (∀ e s', Thrown C X.g₀ X.s₀ (X.env :: outer) (UpX X outer cls) e s' → E e s') → wpC C X.A (exec b X.env) Q E p.s
theorem xx_seq {st r} (h : S1 C k sc σ st σ') (hr : ExX C k sc σ' r cls) : ExX C k sc σ (st :: r) cls := fun X outer p E Q I F q => wpC_execs_cons (h X p E _ I fun p' I' => hr X outer p' E Q I' F q)
theorem xx_hd {st r} (h : EsX C k sc σ st cls) : ExX C k sc σ (st :: r) cls := fun X outer p E Q I F q => wpC_execs_cons (h X outer p E _ I F q)
noncomputable def EvX (C : Mod) (k : Nat) (sc : Names) (ρ : Ct) (e : Expr) (cls : String) : Prop := ∀ (X : Cx C) outer g s (E Q : Value → Shared → Prop), On k sc ρ X g s → X.A.frames = some (X.env :: outer) → FrOK C g s.heap (X.env :: outer) →
  (∀ e s', Thrown C g s (X.env :: outer) (fun b e h => Raw b (X.env :: outer) cls e h ∨ Fly b (X.env :: outer) cls e h) e s' → E e s') → wpC C X.A (eval e X.env) Q E s
theorem ex_fn {ρ : Ct} {f fp args pos ds} (hr : EvR C k sc ρ args ds) (h : FnX C k f ds cls) (hf : (sc.lookup f == some .globalImplicit && !(f == ("__debug__" : Str))) = true) : EvX C k sc ρ (.Call (.Name f fp) args [] pos) cls := fun X outer g s E Q I hA hF q => by
  rw [Bool.and_eq_true, Bool.not_eq_true', beq_iff_eq] at hf
  obtain ⟨a, o, fd, hm, hb, hd, hg⟩ := h
  exact Call_NameC rfl (wpC_of <| load_glob I.fr I.gd (I.kg hf.1) hf.2 hm (callWith_functionC (o := o) (fd := fd) (hr X g s pos I).1 ((hr X g s pos I).2.2 _ E _ fun vs g1 s1 t1 hvs =>
    ⟨⟨t1.good.stays _ _ (hb g1 t1.good.base), hd⟩, hg X.A g1 s1 vs _ _ _ I.rm t1.good hvs hA (hF.step t1) fun e s' T => q e s' ((T.pre hF t1).weak fun _ _ _ u => .inr u)⟩)))
theorem ex_type {ρ : Ct} {f fp args pos Ty ds} (hr : EvR C k sc ρ args ds) (h : ∀ A g s vs (E Q : Value → Shared → Prop), Room k A → Good C g s → RL g ds vs → (∀ h' tk e, Heap.NewExc s.heap h' e cls → E (.ref e) { s with heap := h', toks := tk }) → wpC C A (call (.type Ty) vs) Q E s)
    (hf : (sc.lookup f == some .globalImplicit && !(f == ("__debug__" : Str))) = true) (hm : C.mg f = none) (hb : C.mb f = some (.type Ty)) : EvX C k sc ρ (.Call (.Name f fp) args [] pos) cls := fun X outer g s E Q I hA hF q => by
  rw [Bool.and_eq_true, Bool.not_eq_true', beq_iff_eq] at hf
  exact Call_NameC rfl (wpC_of <| load_bltn I.fr I.gd (I.kg hf.1) hf.2 hm hb (callWith_typeC (hr X g s pos I).1 ((hr X g s pos I).2.2 _ E _ fun vs g1 s1 t1 hvs => h X.A g1 s1 vs E _ I.rm t1.good hvs fun h' tk e x =>
    q _ _ (((Thrown.new (hF.step t1) t1.good x).pre hF t1).weak fun _ _ _ u => .inl u))))
theorem sx_asgn {x e pp pos} (h : EvX C k sc (fz σ) e cls) (hc : isCompE e = false) : EsX C k sc σ (.Assign [.Name x pp] e pos) cls := fun X outer p E Q I F q =>
  wpC_Assign_Name (h (X.cx p.m) outer p.g p.s E _ I.on F.fr (F.at I) fun e s' T => q e s' ((T.start F I).weak fun _ _ _ u => u.elim .inl fun u => .inr (.inl u))) (swaps_plain hc rfl)
theorem call_ofX {f : Str} {a : Addr} {o : Obj} {fd : FuncData} {ps : List Str} {names : Names} {body : List Stmt} (F : FnOK C f a o fd ps names body) {ds : List D} (hl : ds.length = ps.length) (ht : C.top names = false) (h : ExX C k names (ps.zip (ds.map .frz)) body cls) : CallX C (k + 1) (.ref a) ds cls := fun A g s vs fs E Q rm G hv hA hF q =>
  call_start F hl rm (fun e => by rw [ht] at e; cases e) G hv fun X p I e1 e2 e3 e4 e5 => by
    have FF : FX X fs := ⟨by rw [e4]; exact Around.frames_deeper hA, e5, fun b o hb n => by rw [e3]; exact (if_neg n).trans (e2 ▸ hb), by rw [e1, e2]; exact hF, by rw [e1, e2]; exact G⟩
    refine h X fs p _ _ I FF fun e s' T => ?_
    rw [e1, e2] at T
    have hn := FF.new I
    rw [e2] at hn
    refine Classical.byContradiction fun ng0 => ?_
    obtain ⟨base, g2, e', h', tk, rfl, rfl, t1, t2, t3, t4, t5, t6⟩ := T
    refine ng0 (up_leave FF.fr FF.own t5 fun h2 U2 k2 => q _ _ ⟨base, g2, e', h2, tk, rfl, rfl, t1, t2, fun b o hb n m => t3 b o hb n fun z => ?_, t4, U2, fun b hb o ho hd => ?_⟩)
    · rw [frs, List.filterMap_cons, e5] at z
      rcases List.mem_cons.mp z with z | z
      · rw [z, hn] at hb; cases hb
      · exact m z
    · obtain ⟨sl, hs⟩ := t6 b (by rw [frs, List.filterMap_cons, e5]; exact .tail _ hb) o ho hd
      obtain ⟨sl', hs'⟩ := k2 b _ hs hd
      exact ⟨sl', hs'⟩
theorem fnX_of {f : Str} {a : Addr} {o : Obj} {fd : FuncData} {ps : List Str} {names : Names} {body : List Stmt} (F : FnOK C f a o fd ps names body) {ds : List D} (hl : ds.length = ps.length) (ht : C.top names = false) (h : ExX C k names (ps.zip (ds.map .frz)) body cls) : FnX C (k + 1) f ds cls := ⟨a, o, fd, F.mg, F.at_, F.data, call_ofX F hl ht h⟩
end
section
open PySem PySem.W PyProof.Rows
set_option maxRecDepth 100000
variable {C : Mod} {k : Nat} {sc : Names} {X : Cf C k sc} {σ σ' : Store} {p : St} {g g' : Frz} {s s' : Shared} {A : Around} {E : Value → Shared → Prop} {l outer : List Env} {cls : String}
noncomputable abbrev HldX (X : Cf C k sc) (outer : List Env) (cls : String) : Heap → Addr → Heap → Prop := fun b e h => Hld b (X.env :: outer) cls X.env.locals e h
theorem Thrown.noted {v : Value} (F : FX X outer) (T : Thrown C g s (X.env :: outer) (UpX X outer cls) v s') {Q : Unit → Shared → Prop} (q : ∀ s'', Thrown C g s (X.env :: outer) (HldX X outer cls) v s'' → Q () s'') : wpAny C.M X.A (noteFrame v X.env) Q E s' := by
  have T' := T
  obtain ⟨base, g2, e, h, tk, rfl, rfl, t1, t2, t3, t4, t5, t6⟩ := T'
  refine up_note F.fr F.own t5 fun h2 U2 k2 => q _ ⟨base, g2, e, h2, tk, rfl, rfl, t1, t2, t3, t4, U2, fun b hb o ho hd => ?_⟩
  obtain ⟨sl, hs⟩ := t6 b hb o ho hd
  obtain ⟨sl', hs'⟩ := k2 b _ hs hd
  exact ⟨sl', hs'⟩
theorem Thrown.came {v : Value} (F : FX X outer) (T : Thrown C g s (X.env :: outer) (HldX X outer cls) v s') (q : ∀ s'', Thrown C g s (X.env :: outer) (UpX X outer cls) v s'' → E v s'') : cameBackBy C.M X.A X.env E v s' := by
  have T' := T
  obtain ⟨base, g2, e, h, tk, rfl, rfl, t1, t2, t3, t4, t5, t6⟩ := T'
  refine hld_came F.own t5 fun h2 U2 k2 => q _ ⟨base, g2, e, h2, tk, rfl, rfl, t1, t2, t3, t4, .inr (.inr U2), fun b hb o ho hd => ?_⟩
  obtain ⟨sl, hs⟩ := t6 b hb o ho hd
  obtain ⟨sl', hs'⟩ := k2 b _ hs hd
  exact ⟨sl', hs'⟩
theorem sx_for0 {t it : Expr} {b : List Stmt} {pos : Pos} (h : EvX C k sc (fz σ) it cls) (hset : isSet it = false) : EsX C k sc σ (.For t it b [] pos) cls := fun X outer p E Q I F q =>
  wpC_For (h (X.cx p.m) outer p.g p.s E _ I.on F.fr (F.at I) fun e s' T => q e s' ((T.start F I).weak fun _ _ _ u => u.elim .inl fun u => .inr (.inl u))) fun x => fold_plain hset X.env x
theorem sx_for {t it : Expr} {b : List Stmt} {pos : Pos} {d dn : D} {items : List D} {n : Nat} {W : Nat → Store → Prop} (hit : Ev C k sc (fz σ) it d) (hi : Itb d items) (hset : isSet it = false) (h0 : W 0 σ) (hn : items[n]? = some dn)
    (step : ∀ i d, i < n → items[i]? = some d → ∀ σ, W i σ → ∃ σ1, BF C k sc t d σ σ1 ∧ Ex C k sc σ1 b fun σ' fl => fl = .nxt ∧ W (i + 1) σ') (last : ∀ σ, W n σ → ∃ σ1, BF C k sc t dn σ σ1 ∧ ExX C k sc σ1 b cls) :
    EsX C k sc σ (.For t it b [] pos) cls := fun X outer p E Q I F q => by
  refine wpC_For (hit _ p.g p.s I.on E _ fun v g1 s1 t1 hv => ?_) fun x => fold_plain hset X.env x
  refine wpC_of <| hi _ _ _ _ _ _ _ t1.good hv fun o tk hfr hI1 => ?_
  have t2 : Step C g1 s1 g1 { s1 with heap := s1.heap.push o, toks := tk } := Step.grew t1.good fun a x e => Heap.get?_push_of_some o e
  have tJ := t1.good.new_tab
  have gJ : g1 s1.heap.objs.size = none := t1.good.new
  have bJ : X.B s1.heap.objs.size = none := (I.after t1).dead (Heap.get?_size _)
  generalize s1.heap.objs.size = J at hI1 tJ bJ gJ ⊢
  have loop : ∀ (j i : Nat) (σ : Store) (p : St), n = i + j → W i σ → Inv X σ p → Itr C p.g J items i p.s.heap → p.g J = none → codeC C X.A (.forLoop t (.ref J) b [] X.env) (fun r s' => match r with | .ok f => Q f s' | .error e => cameBackBy C.M X.A X.env E e s') p.s := fun j => by
    induction j with
    | zero =>
      intro i σ p hj hW I hI gJ
      have hj' : n = i := hj
      subst hj'
      refine codeC_of_tree ?_
      show wpC _ X.A ((forTurn t (.ref J) b [] X.env).onRaise (fun x => do noteFrame x X.env; theTreesLotGoes x)) _ _ p.s
      refine wpC_noted ?_
      unfold forTurn
      refine wpC_bind (wpC_standAt (wpC_bind (wpC_onRaise (wpC_of <| hI.next X.rm.handled hn fun v h' tk hv hI' hk => ?_))))
      have I1 := I.turn (tk := tk) hI.live gJ tJ bJ hk
      refine wpC_bind (wpC_of <| letOwned_sound hI'.live (wpC_bind ?_))
      refine Classical.byContradiction fun ng0 => ?_
      obtain ⟨σ1, hb, hx⟩ := last σ hW
      refine ng0 ?_
      refine wpC_of <| hb X ⟨p.g, { p.s with heap := h', toks := tk }, p.m, p.ad⟩ v _ _ I1 hv fun s2 m2 ad2 I3 => ?_
      exact wpC_bind (hx X outer ⟨p.g, s2, m2, ad2⟩ _ _ I3 F fun e s3 T => T.noted F fun s4 T4 => T4.came F fun s5 T5 => q e s5 T5)
    | succ j ih =>
      intro i σ p hj hW I hI gJ
      have hlt : i < n := hj ▸ Nat.lt_add_of_pos_right (Nat.succ_pos j)
      have hlt2 : i < items.length := Nat.lt_trans hlt (List.getElem?_eq_some_iff.mp hn).1
      refine codeC_of_tree ?_
      show wpC _ X.A ((forTurn t (.ref J) b [] X.env).onRaise (fun x => do noteFrame x X.env; theTreesLotGoes x)) _ _ p.s
      refine wpC_noted ?_
      unfold forTurn
      refine wpC_bind (wpC_standAt (wpC_bind (wpC_onRaise (wpC_of <| hI.next X.rm.handled (List.getElem?_eq_getElem hlt2) fun v h' tk hv hI' hk => ?_))))
      have I1 := I.turn (tk := tk) hI.live gJ tJ bJ hk
      refine wpC_bind (wpC_of <| letOwned_sound hI'.live (wpC_bind ?_))
      refine Classical.byContradiction fun ng0 => ?_
      obtain ⟨oJ, hoJ⟩ := live_get hI'.live
      obtain ⟨σ1, hb, hx⟩ := step i _ hlt (List.getElem?_eq_getElem hlt2) σ hW
      refine ng0 ?_
      refine wpC_of <| hb (X.plus p.g J oJ) ⟨p.g, { p.s with heap := h', toks := tk }, p.m, p.ad⟩ v _ _ (I1.up hI'.live hoJ tJ) hv fun s2 m2 ad2 I3 => ?_
      refine wpC_bind (hx (X.plus p.g J oJ) ⟨p.g, s2, m2, ad2⟩ _ _ I3 (fun σ' p4 I4 hw => ?_) fun σ' p' d v _ hw _ => by cases hw.1)
      have hJ4 : p4.s.heap.get? J = some oJ := I4.keep J oJ (Frz.put_self ..)
      have gJ4 : p4.g J = none := (I4.fresh J oJ (Frz.put_self ..)).trans gJ
      refine wpC_pure ⟨rfl, rfl, ih (i + 1) σ' p4 (by rw [hj]; exact (Nat.add_right_comm i j 1).trans rfl) hw.2 (I4.down bJ I1.grow I1.fresh) (hI'.mono I4.grow I1.good.stays I4.good.stays fun o e => ?_) gJ4⟩
      rw [hoJ] at e; cases e; exact hJ4
  exact loop n 0 σ ⟨_, _, _, _⟩ (Nat.zero_add _).symm h0 ((I.after t1).after t2) hI1 gJ
theorem setItem_past {a : Addr} {b : List UInt8} {i x : Int} {t u : Tok} {Q : Unit → Shared → Prop} (hh : A.handled = none) (ho : s.heap.get? a = some (bufObj b)) (hz : b.length ≤ lim) (h0 : (b.length : Int) ≤ i) (h1 : i ≤ lim) (x0 : 0 ≤ x) (x1 : x < 256)
    (h : ∀ h' tk e, Heap.NewExc s.heap h' e "IndexError" → E (.ref e) { s with heap := h', toks := tk }) : wpAny C.M A (setItem (.ref a) (.int i t) (.int x u)) Q E s := by
  have hT : s.TypeIs (.ref a) "bytearray" := ⟨_, ho, rfl⟩
  unfold setItem
  try with_reducible refine wpAny_holding ?_
  first | refine wpAny_bind (wpAny_pure ?_) | skip
  refine wpAny_bind (wpAny_sequenceKey hT (by decide) ?_)
  refine wpAny_bind (wpAny_callSpecial?_slot hT slot_ba_setitem (wpAny_call_entry slot_ba_setitem hT entry_ba_setitem ?_ (args_ba_setitem _ _ _)))
  unfold Builtin.«bytearray.__setitem__»
  have hfit : Builtin.Bytes.fitsIndex i = true := by
    unfold Builtin.Bytes.fitsIndex
    simp only [lim] at h1
    simp; omega
  show wpAny _ _ (Builtin.Bytes.subscript? (.int i t) >>= fun r => _) _ _ s
  refine wpAny_bind ?_
  unfold Builtin.Bytes.subscript?
  refine wpAny_bind (wpAny_specialOf (T := "int") (typeIs_int _ _ _) int_idx ?_)
  refine wpAny_bind (wpAny_of_eq (a := i) rfl ?_)
  show wpAny _ _ (if (!Builtin.Bytes.fitsIndex i) = true then _ else pure (some i)) _ _ s
  rw [hfit]
  refine wpAny_pure ?_
  show wpAny _ _ (Builtin.Bytes.byteValue (.int x u) >>= fun r => _) _ _ s
  refine wpAny_bind ?_
  unfold Builtin.Bytes.byteValue
  refine wpAny_bind (wpAny_of_eq (a := x) rfl ?_)
  have hx : (decide (x < 0) || decide (x ≥ 256)) = false := by simp; omega
  rw [hx]
  refine wpAny_pure ?_
  refine wpAny_bind ?_
  unfold Builtin.Bytes.payload Builtin.Bytes.payload?
  refine wpAny_bind (wpAny_bind (wpAny_load ho ?_))
  refine wpAny_pure (wpAny_pure ?_)
  have hk : seqIndex? i b.toArray.size = none := by
    unfold seqIndex?
    simp only [List.size_toArray]
    have hn : ¬ i < 0 := by omega
    have hp : (decide (0 ≤ i) && decide (i < (b.length : Int))) = false := by simp; omega
    simp only [hn, if_false, hp]
    rfl
  rw [hk]
  refine wpAny_bind (wpAny_bind (wpAny_rule ?_))
  exact_raiseError plainExc_IndexError hh h
theorem sx_setb {x i v pp p' p'' b} {u j : Int} (hx : storable sc x = true) (hl : σ.lookup x = some (.buf b)) (hc : isCompE v = false) (hv : Ev C k sc (fz σ) v (.int u)) (hi : Ev C k sc (fz σ) i (.int j)) (u0 : 0 ≤ u) (u1 : u < 256) (j0 : (b.length : Int) ≤ j) (j1 : j ≤ lim) (hz : b.length ≤ lim) :
    EsX C k sc σ (.Assign [.Subscript (.Name x pp) i p'] v p'') "IndexError" := fun X outer p E Q I F q => by
  refine wpC_Assign_Subscript (hv _ p.g p.s I.on E _ fun vv g1 s1 st1 hvv => ?_) (swaps_plain hc rfl)
  refine load_slot (I.after st1) hx hl fun bv hm hs => ?_
  obtain ⟨a, rfl, ha, had⟩ := hs
  refine hi _ g1 s1 ((I.after st1).on) E _ fun iv g2 s2 st2 hiv => ?_
  have I2 := (I.after st1).after st2
  have had2 : a ∈ p.ad x := had ▸ .head _
  have ha2 := st2.keep a _ (I2.own x a had2).2.2.1 ha
  obtain ⟨t, rfl⟩ := hvv
  obtain ⟨t', rfl⟩ := hiv
  exact wpC_of <| setItem_past X.rm.handled ha2 hz j0 j1 u0 u1 fun h' tk e x => q _ _ (((Thrown.new (F.at I2) I2.good x).start F I2).weak fun _ _ _ u => .inl u)
theorem range_nought {A : Around} {a b : Int} {t u v : Tok} {Q : Value → Shared → Prop} (hh : A.handled = none) (h : ∀ h' tk e, Heap.NewExc s.heap h' e "ValueError" → E (.ref e) { s with heap := h', toks := tk }) : wpAny C.M A (call (.type "range") [.int a t, .int b u, .int 0 v]) Q E s := by
  refine callType_newIn (S := raisesNew "ValueError") F.called_range (by decide) (F.typeCall_range_3 _ _ _) (F.newCall_range_3 _ _ _) (fun obj => F.initArgs_range_3 obj _ _ _) F.entry_range_new ?_ ⟨hh, h⟩
  refine .of_wp fun A R s h => ?_
  have hsub := F.called_range.sub
  obtain ⟨hp, g, d, tk, os⟩ := s
  wp_walk
  exact_raiseError plainExc_ValueError h.1 h.2
theorem px_range {a b : Int} : ∀ A g s vs (E Q : Value → Shared → Prop), Room k A → Good C g s → RL g [.int a, .int b, .int 0] vs → (∀ h' tk e, Heap.NewExc s.heap h' e "ValueError" → E (.ref e) { s with heap := h', toks := tk }) → wpC C A (call (.type "range") vs) Q E s := fun A g s vs E Q rm G h1 q => by
  obtain ⟨v, w, x, e, ⟨t, e2⟩, ⟨u, e3⟩, ⟨u', e4⟩⟩ := RL.three h1
  subst e e2 e3 e4
  exact wpC_of (range_nought rm.handled q)
end
section
open PySem PySem.W PyProof.Rows
variable {C : Mod} {k : Nat} {sc : Names} {X : Cf C k sc} {σ σ' : Store} {p : St} {g g' : Frz} {s s' : Shared} {A : Around} {E : Value → Shared → Prop} {l outer : List Env} {cls : String} {env : Env}
theorem wpC_Try_except {body orelse : List Stmt} {h₀ : ExceptHandler} {hs : List ExceptHandler} {pos : Pos} {Q : Flow → Shared → Prop}
    (h : wpC C A (execs body env) (fun f s₁ => match f with | .next => wpC C A (execs orelse env) Q E s₁ | f => Q f s₁)
      (fun e s₁ => wpAny C.M A (noteFrame e env) (fun _ s₂ => wpAny C.M A (setFlight e none) (fun _ s₃ => wpAny C.M A (handleBy e env (h₀ :: hs)) Q E s₃) E s₂) E s₁) s) :
    wpC C A (exec (.Try body (h₀ :: hs) orelse [] pos) env) Q E s := by
  rw [arm_exec_Try]
  refine wpC_bind (wpC_standAt ?_)
  unfold tryStmt
  simp only [List.isEmpty_nil, if_true, List.isEmpty_cons, Bool.false_and, Bool.false_eq_true, if_false]
  refine wpC_bind (wpC_attempt (wpC_mono h (fun f s₁ h₁ => ?_) fun e s₁ h₁ => ?_))
  · cases f <;> first | exact h₁ | exact wpC_pure h₁
  · exact wpC_bind (wpC_mono (wpC_of h₁) (fun _ _ h₂ => wpC_bind (wpC_mono (wpC_of h₂) (fun _ _ h₃ => wpC_of h₃) fun _ _ x => x)) fun _ _ x => x)
theorem s_tryN {st h₀ hs pos} (h : S1 C k sc σ st σ') : S1 C k sc σ (.Try [st] (h₀ :: hs) [] [] pos) σ' := fun X p E Q I q =>
  wpC_Try_except (wpC_execs_cons (h X p _ _ I fun p' I' => wpC_execs_nil (wpC_execs_nil (q p' I'))))
theorem Inv.thrown {U : Heap → Addr → Heap → Prop} {v : Value} (I : Inv X σ p) (hown : X.env.frame = some X.env.locals) (T : Thrown C p.g p.s [X.env] U v s') (hU : ∀ base e h, U base e h → base.StaysIn h) : ∃ g', p.g.le g' ∧ Inv X σ ⟨g', s', p.m, p.ad⟩ := by
  refine Classical.byContradiction fun ng0 => ?_
  obtain ⟨base, g2, e, h, tk, rfl, rfl, t1, t2, t3, t4, t5, t6⟩ := T
  have hst := hU _ _ _ t5
  obtain ⟨ol, es, ep, hol, hdl⟩ := I.locl
  have hfr : frs [X.env] = [X.env.locals] := by rw [frs, List.filterMap_cons, hown]; rfl
  rw [hfr] at t3 t6
  have kp : ∀ b o, p.s.heap.get? b = some o → b ∉ C.tabs → b ≠ X.env.locals → h.get? b = some o := fun b o hb n m => hst b o (t3 b o hb n fun z => m (List.mem_singleton.mp z))
  obtain ⟨sl, hsl⟩ := t6 X.env.locals (.head _) ol hol fun vs q => by rw [hdl] at q; cases q
  have ow : ∀ {x a}, a ∈ p.ad x → ∀ o, p.s.heap.get? a = some o → h.get? a = some o := fun {x a} ha o ho => by
    obtain ⟨_, _, w3, o', ho', no⟩ := I.own x a ha
    refine kp a o ho w3 fun z => ?_
    rw [z, hol] at ho'; cases ho'
    exact no.1 _ _ hdl
  have good : Good C g2 { p.s with heap := h, toks := tk } := ⟨fun b o hb => hst b o (t4.stays b o hb), t4.base, C.tabKeep g2.le_refl (fun b hb => by
      obtain ⟨o, ho⟩ := C.tabIn t4.tab b hb
      exact (hst b o ho).trans ho.symm) t4.tab, t4.apart⟩
  refine ng0 ⟨g2, t1, ?_, Frz.le_trans I.grow t1, fun a o ha => (t2 a o (I.keep a o ha)).trans (I.fresh a o ha), fun a o ha => kp a o (I.keep a o ha) (I.notab a o ha) (fun z => by rw [z, I.loc.1] at ha; cases ha), I.notab, good, ?_, fun x slx hx => ?_, fun x a ha => ?_, I.apart, ⟨I.loc.1, (t2 _ ol hol).trans I.loc.2⟩, fun x c hk hc => ⟨(I.cell x c hk hc).1, ?_⟩⟩
  · obtain ⟨h', tk', e⟩ := I.same
    exact ⟨h, tk, by rw [e]⟩
  · have F := I.frame
    refine ⟨F.fn, F.glob, F.blt, ?_, fun x hx => ?_, F.locT, F.apart, F.code⟩
    · obtain ⟨ml, ⟨o, es', ep', ho, hd, r⟩, hm⟩ := F.ns
      have ho : p.s.heap.get? X.env.locals = some o := ho
      rw [hol] at ho; cases ho
      exact ⟨ml, ⟨_, es', ep', hsl, hd, r⟩, hm⟩
    · obtain ⟨c, e1, ⟨oc, ho, hd⟩, n⟩ := F.cell x hx
      exact ⟨c, e1, ⟨oc, kp c oc ho n (F.cell_ne hx e1), hd⟩, n⟩
  · obtain ⟨w, hw, hs⟩ := I.slot x slx hx
    exact ⟨w, hw, hs.mono t1 fun a o ha ho => ow ha o ho⟩
  · obtain ⟨w1, w2, w3, o, ho, no⟩ := I.own x a ha
    exact ⟨w1, (t2 a o ho).trans w2, w3, o, ow ha o ho, no⟩
  · obtain ⟨o, v, ho, _⟩ := I.celll hk hc
    exact (t2 c o ho).trans (I.cell x c hk hc).2
inductive Cl (C : Mod) (sc : Names) (X : String) (b : Bool) : Expr → Prop
  | mk (x : Str) (pp : Pos) (T : String) (_ : (sc.lookup x == some .globalImplicit && !(x == ("__debug__" : Str))) = true) (_ : C.mg x = none) (_ : C.mb x = some (.type T)) (_ : isSubtype (.type T) (.type "BaseException") = pure true)
      (_ : isSubtype (.type ((Manifest.find? T).elim "type" fun x => x.metatype)) (.type "tuple") = pure false) (_ : isSubtype (.type X) (.type T) = pure b) : Cl C sc X b (.Name x pp)
inductive Han (C : Mod) (sc : Names) (X : String) (x : Str) (y : List Nat) : List ExceptHandler → Prop
  | hit (t : Expr) (pp p1 p2 p3 : Pos) (kk : Nat) (z : Str) (r : List ExceptHandler) (_ : Cl C sc X true t) (_ : z.cps.toList = y) : Han C sc X x y (.ExceptHandler (some t) none [.Assign [.Name x pp] (.Constant (.str z) kk p1) p2] p3 :: r)
  | miss (t : Expr) (b₀ : Stmt) (b : List Stmt) (p3 : Pos) (r : List ExceptHandler) (_ : Cl C sc X false t) (_ : Han C sc X x y r) : Han C sc X x y (.ExceptHandler (some t) none (b₀ :: b) p3 :: r)
theorem fly_typeIs {base : Heap} {e : Addr} (U : Fly base l cls e s.heap) : s.TypeIs (.ref e) cls := let ⟨_, U⟩ := U; let ⟨ob, h1, h2⟩ := U.there; ⟨ob, h1, h2⟩
theorem Inv.onto (I : Inv X σ p) (h : ∀ y, σ'.lookup y = σ.lookup y) : Inv X σ' p := I.congr h
theorem han_ok {x : Str} {y : List Nat} (hx : storable sc x = true) (hown : X.env.frame = some X.env.locals) : ∀ {hs : List ExceptHandler} {s : Shared} {e : Addr} {base : Heap}, Han C sc cls x y hs → Inv X σ ⟨g, s, p.m, p.ad⟩ → Thrown C p.g p.s [X.env] (fun b e h => Fly b [X.env] cls e h) (.ref e) s → p.g.le g → Inv X σ p →
    ∀ {E : Value → Shared → Prop} {Q : Flow → Shared → Prop}, (∀ p', Inv X (put σ x (.frz (.str y))) p' → Q .next p'.s) → wpAny C.M X.A (handleBy (.ref e) X.env hs) Q E s
  | _, s, e, base, .miss t b₀ b p3 r hc hr, I, T, hle, I0, E, Q, q => by
    have ih := han_ok hx hown hr I T hle I0 q (base := base) (E := E)
    have T' := T
    obtain ⟨base', g2, e', h, tk, e1, rfl, t1, t2, t3, t4, t5, t6⟩ := T'
    cases e1
    obtain ⟨xn, pp, Ty, c1, c2, c3, c4, c5, c6⟩ := hc
    rw [Bool.and_eq_true, Bool.not_eq_true', beq_iff_eq] at c1
    refine wpAny_handleBy_builtin c4 c5 c6 (load_bltn I.frame I.good (by unfold Env.kindOf; rw [X.nm]; exact c1.1) c1.2 c2 c3 ⟨rfl, fly_typeIs t5, ?_⟩)
    exact ih
  | _, s, e, base, .hit t pp p1 p2 p3 kk z r hc hz, I, T, hle, I0, E, Q, q => by
    have T' := T
    obtain ⟨base', g2, e', h, tk, e1, rfl, t1, t2, t3, t4, t5, t6⟩ := T'
    cases e1
    obtain ⟨xn, pp', Ty, c1, c2, c3, c4, c5, c6⟩ := hc
    rw [Bool.and_eq_true, Bool.not_eq_true', beq_iff_eq] at c1
    refine wpAny_handleBy_builtin c4 c5 c6 (load_bltn I.frame I.good (by unfold Env.kindOf; rw [X.nm]; exact c1.1) c1.2 c2 c3 ⟨rfl, fly_typeIs t5, ?_⟩)
    rw [if_pos rfl]
    obtain ⟨a0, t5'⟩ := t5
    refine lands_againW t5' fun h2 U2 k2 => ?_
    have T2 : Thrown C p.g p.s [X.env] (fun b e h => Fly b [X.env] cls e h) (.ref e) { p.s with heap := h2, toks := tk } := by
      refine ⟨base', g2, e, h2, tk, rfl, rfl, t1, t2, t3, t4, ⟨a0, U2⟩, fun b hb o ho hd => ?_⟩
      obtain ⟨sl, hs⟩ := t6 b hb o ho hd
      obtain ⟨sl', hs'⟩ := k2 b _ hs hd
      exact ⟨sl', hs'⟩
    obtain ⟨g3, _, I3⟩ := I0.thrown hown T2 fun b e h u => u.elim fun _ u => u.1
    subst hz
    refine wpAny_execs_cons (wpAny_Assign_Name (wpAny_Constant_str ?_) (swaps_plain rfl rfl))
    exact (I3.after (Step.toks I3.good _)).store (sl := .frz (.str z.cps.toList)) (l := []) (storable_kind hx X) ⟨⟨_, rfl⟩, rfl⟩ (fun a ha => by cases ha) (fun y _ a ha => by cases ha) fun s' I' _ => wpAny_execs_nil (q _ I')
theorem s_tryX {x x0 : Str} {y : List Nat} {e : Expr} {pp p0 pos hs h₀} (ht : C.top sc = true) (hx : storable sc x = true) (he : EvX C k sc (fz σ) e cls) (hc : isCompE e = false) (hh : Han C sc cls x y (h₀ :: hs)) :
    S1 C k sc σ (.Try [.Assign [.Name x0 pp] e p0] (h₀ :: hs) [] [] pos) (put σ x (.frz (.str y))) := fun X p E Q I q => by
  obtain ⟨hA, hown⟩ := X.top ht
  have FF : FrOK C p.g p.s.heap [X.env] := fun env he => by
    rw [List.mem_singleton.mp he]
    obtain ⟨o, es, ep, ho, hd⟩ := I.locl
    exact ⟨(by rw [I.frame.fn]; decide), _, o, hown, ho, (fun vs q => by rw [hd] at q; cases q), I.loc.2, I.frame.locT⟩
  refine wpC_Try_except (wpC_execs_cons (wpC_Assign_Name (he (X.cx p.m) [] p.g p.s _ _ I.on hA FF fun v s1 T => ?_) (swaps_plain hc rfl)))
  have T' := T
  obtain ⟨base, g2, a, h, tk, rfl, rfl, t1, t2, t3, t4, t5, t6⟩ := T'
  have t5 : Up base [X.env] cls X.env.locals a h := t5.elim .inl fun u => .inr (.inl u)
  refine up_note (s := { p.s with heap := h, toks := tk }) hA hown t5 fun h2 U2 k2 => hld_lands (s := { p.s with heap := h2, toks := tk }) U2 fun h3 U3 k3 => ?_
  have T3 : Thrown C p.g p.s [X.env] (fun b e h => Fly b [X.env] cls e h) (.ref a) { p.s with heap := h3, toks := tk } := by
    refine ⟨base, g2, a, h3, tk, rfl, rfl, t1, t2, t3, t4, U3, fun b hb o ho hd => ?_⟩
    obtain ⟨sl, hs⟩ := t6 b hb o ho hd
    obtain ⟨sl', hs'⟩ := (k2.trans k3) b _ hs hd
    exact ⟨sl', hs'⟩
  obtain ⟨g3, hle, I3⟩ := I.thrown hown T3 fun b e h u => u.elim fun _ u => u.1
  exact han_ok (base := base) hx hown hh I3 T3 hle I q
end
section
open PySem PySem.W PyProof.Rows
set_option maxRecDepth 100000
set_option maxHeartbeats 4000000
variable {C : Mod} {k : Nat}
noncomputable def swapB {α : Type} : Nat → Nat → List α → List α
  | 0, _, _ => []
  | n + 1, w, b => (b.take w).reverse ++ swapB n w (b.drop w)
theorem swapB_map {α β : Type} {f : α → β} {w : Nat} : ∀ (n : Nat) (l : List α), swapB n w (l.map f) = (swapB n w l).map f
  | 0, _ => rfl
  | n + 1, l => by
    show ((l.map f).take w).reverse ++ swapB n w ((l.map f).drop w) = _
    rw [← List.map_take, ← List.map_drop, ← List.map_reverse, swapB_map n, ← List.map_append]; rfl
theorem swapB_mem {α : Type} {w : Nat} {c : α} : ∀ {n : Nat} {l : List α}, c ∈ swapB n w l → c ∈ l
  | 0, _, h => by cases h
  | n + 1, l, h => by
    rcases List.mem_append.mp h with h | h
    · exact List.mem_of_mem_take (List.mem_reverse.mp h)
    · exact List.mem_of_mem_drop (swapB_mem h)
theorem swapB_len {α : Type} : ∀ {k u : Nat} {b : List α}, u * k ≤ b.length → (swapB k u b).length = u * k
  | 0, u, b, h => by simp [swapB]
  | k + 1, u, b, h => by
    rw [Nat.mul_add, Nat.mul_one] at h
    simp only [swapB]
    rw [List.length_append, List.length_reverse, List.length_take, swapB_len (by rw [List.length_drop]; omega), Nat.mul_add, Nat.mul_one]; omega
noncomputable def chars (b : List UInt8) : T := b.map fun c => c.toNat
theorem chars_oct {l : T} (h : ∀ c ∈ l, c < 256) : chars (Oct l) = l := by
  unfold chars Oct
  rw [List.map_map]
  conv => rhs; rw [← List.map_id l]
  refine List.map_congr_left fun c hc => ?_
  have := h c hc
  simp only [Function.comp, Int.toNat_natCast, id]
  show (UInt8.ofNat c).toNat = c
  rw [UInt8.toNat_ofNat']; omega
theorem oct_len {a : T} : (Oct a).length = a.length := by unfold Oct; rw [List.length_map]
theorem chr_one : ∀ (l : List UInt8), (l.map fun c => [c.toNat]).flatten = l.map UInt8.toNat
  | [] => rfl
  | c :: l => by rw [List.map_cons, List.flatten_cons, chr_one l]; rfl
theorem ev_turned (M : Bs C) (x : T) (w n : Nat) (hx : x.length ≤ 1000000) (hc : ∀ c ∈ x, c < 256) (hn : x.length = w * n) (hs : FnG C k "_byteswap" [.bytes (Oct x), .int (w : Nat)] (.bytes (swapB n w (Oct x)))) :
    Ex C k (namesOf "_law_turned") [("text", .frz (.str x)), ("width", .frz (.int (w : Nat)))] (bodyOf "_law_turned") fun _ fl => fl = .ret (.str (swapB n w x)) := by
  conv in (bodyOf _) => whnf
  conv in (namesOf _) => whnf
  have h0 := zlt hx
  have es : swapB n w (Oct x) = Oct (swapB n w x) := swapB_map n x
  rw [es] at hs
  have ej : ((Oct (swapB n w x)).map fun c => [c.toNat]).flatten = swapB n w x := (chr_one _).trans (chars_oct fun c q => hc c (swapB_mem q))
  have l2 : (swapB n w x).length ≤ lim := by rw [swapB_len (Nat.le_of_eq hn.symm), ← hn]; exact h0
  have l3 : (Oct (swapB n w x)).length ≤ lim := by rw [oct_len]; exact l2
  refine x_seq (s_asgn (sl := .frz (.bytes (Oct (swapB n w x)))) (es_ev ?_) ?_ ?_) (x_ret (d := .str (swapB n w x)) (e_ifT (t_val (e_isB M (b := Oct (swapB n w x)) ?_ ?_ ?_) tr_bool ?_) ?_) rfl)
  all_goals walk_at "ev"
theorem ev_turnedX (M : Bs C) (x : T) (w : Nat) {cls : String} (hx : x.length ≤ 1000000) (hc : ∀ c ∈ x, c < 256) (hs : FnX C k "_byteswap" [.bytes (Oct x), .int (w : Nat)] cls) :
    ExX C k (namesOf "_law_turned") [("text", .frz (.str x)), ("width", .frz (.int (w : Nat)))] (bodyOf "_law_turned") cls := by
  conv in (bodyOf _) => whnf
  conv in (namesOf _) => whnf
  have h0 := zlt hx
  refine xx_hd (sx_asgn (ex_fn (ds := [.bytes (Oct x), .int (w : Nat)]) ?_ hs ?_) ?_)
  all_goals walk_at "ev"
end
section
open PySem PySem.W PyProof.Rows
set_option maxRecDepth 100000
set_option maxHeartbeats 4000000
variable {C : Mod} {k : Nat}
theorem range_blocks {u n r : Nat} (hu : 0 < u) (hr : r < u) : (Builtin.Range.rangeSize 0 ((u * n + r : Nat) : Int) (u : Int)).toNat = n + (if r = 0 then 0 else 1) := by
  unfold Builtin.Range.rangeSize
  have h1 : (u : Int) > 0 := by omega
  rw [if_pos h1]
  by_cases h0 : u * n + r = 0
  · have hn : n = 0 := by
      rcases Nat.eq_zero_or_pos n with q | q
      · exact q
      · have := Nat.mul_pos hu q; omega
    have hr0 : r = 0 := by omega
    rw [if_neg (by omega), if_pos hr0, hn]; rfl
  · rw [if_pos (by omega)]
    have : ((u * n + r : Nat) : Int) - 0 - 1 = (((u * n + r - 1 : Nat)) : Int) := by omega
    rw [this, ← Int.natCast_ediv]
    by_cases q : r = 0
    · rw [if_pos q]
      subst q
      match n, h0 with
      | 0, h0 => exact absurd (by simp) h0
      | m + 1, _ =>
        have e : u * (m + 1) + 0 - 1 = u * m + (u - 1) := by rw [Nat.mul_succ]; omega
        rw [e, Nat.mul_add_div hu, Nat.div_eq_of_lt (by omega)]; omega
    · rw [if_neg q]
      have e : u * n + r - 1 = u * n + (r - 1) := by omega
      rw [e, Nat.mul_add_div hu, Nat.div_eq_of_lt (by omega)]; omega
theorem range_one {u : Nat} : (Builtin.Range.rangeSize 0 (u : Int) 1).toNat = u := by
  have := range_blocks (u := 1) (n := u) (r := 0) (by omega) (by omega)
  rw [Nat.one_mul] at this; exact this
noncomputable def zer (k : Nat) : List UInt8 := List.replicate k 0
theorem set_at {a c : List UInt8} {x y : UInt8} {k : Nat} (h : a.length = k) : (a ++ x :: c).set k y = a ++ y :: c := by
  subst h; rw [List.set_append_right _ _ (Nat.le_refl _), Nat.sub_self]; rfl
theorem swapB_snoc {α : Type} : ∀ {k u : Nat} {b : List α}, swapB (k + 1) u b = swapB k u b ++ ((b.drop (u * k)).take u).reverse
  | 0, u, b => by simp [swapB]
  | k + 1, u, b => by
    conv => lhs; unfold swapB
    rw [swapB_snoc]
    conv => rhs; unfold swapB
    rw [List.append_assoc, List.drop_drop, Nat.mul_add, Nat.mul_one, Nat.add_comm u]
noncomputable def bsI (b : List UInt8) (u i : Nat) (σ : Store) : Prop := At σ "data" (.frz (.bytes b)) ∧ At σ "width" (.frz (.int (u : Nat))) ∧ At σ "swapped_data" (.buf (swapB i u b ++ zer (b.length - u * i)))
noncomputable def bsJ (b : List UInt8) (u i j : Nat) (σ : Store) : Prop := At σ "data" (.frz (.bytes b)) ∧ At σ "width" (.frz (.int (u : Nat))) ∧ At σ "i" (.frz (.int ((u * i : Nat) : Int))) ∧ At σ "swapped_data" (.buf ((swapB i u b ++ zer (u - j)) ++ ((b.drop (u * i)).take j).reverse ++ zer (b.length - u * i - u)))
theorem buf_eq {σ : Store} {x : Str} {a b : List UInt8} (h : At σ x (.buf a)) (e : a = b) : At σ x (.buf b) := e ▸ h
theorem zer_add {a c : Nat} : zer (a + c) = zer a ++ zer c := List.replicate_append_replicate.symm
theorem bs_start {b : List UInt8} {u i : Nat} (hi : u * i + u ≤ b.length) : swapB i u b ++ zer (b.length - u * i) = (swapB i u b ++ zer (u - 0)) ++ ((b.drop (u * i)).take 0).reverse ++ zer (b.length - u * i - u) := by
  have : b.length - u * i = u + (b.length - u * i - u) := by omega
  rw [List.take_zero, List.reverse_nil, List.append_nil, List.append_assoc, Nat.sub_zero, ← zer_add, ← this]
theorem bs_end {b : List UInt8} {u i : Nat} : (swapB i u b ++ zer (u - u)) ++ ((b.drop (u * i)).take u).reverse ++ zer (b.length - u * i - u) = swapB (i + 1) u b ++ zer (b.length - u * (i + 1)) := by
  rw [Nat.sub_self, swapB_snoc, Nat.sub_sub, Nat.mul_succ]; exact congrArg (· ++ _ ++ _) (List.append_nil _)
theorem blocks_iter {u n r : Nat} (hu : 0 < u) (hr : r < u) (hu' : u ≤ 1000000) (hn : u * n + r ≤ 1000000) : Itb (.rng 0 ((u * n + r : Nat) : Int) (u : Int)) ((List.range (n + (if r = 0 then 0 else 1))).map fun i => .int ((u * i : Nat) : Int)) := by
  have := itb_rng (a := 0) (b := ((u * n + r : Nat) : Int)) (c := (u : Int)) ⟨by omega, by omega, by omega, by omega, by omega, by omega⟩
  rw [range_blocks hu hr] at this
  exact cast (congrArg _ (List.map_congr_left fun i _ => congrArg D.int (by rw [Int.zero_add, Int.natCast_mul, Int.mul_comm]))) this
theorem one_iter {u : Nat} (hu' : u ≤ 1000000) : Itb (.rng 0 (u : Int) 1) ((List.range u).map fun i => .int ((i : Nat) : Int)) := by
  have := itb_rng (a := 0) (b := (u : Int)) (c := 1) ⟨by omega, by omega, by omega, by omega, by omega, by omega⟩
  rw [range_one] at this
  exact cast (congrArg _ (List.map_congr_left fun i _ => congrArg D.int (by rw [Int.zero_add, Int.mul_one]))) this
theorem set_next {b : List UInt8} {u i j : Nat} (hj : j < u) (hlen : (swapB i u b).length = u * i) (hj' : u * i + j < b.length) :
    ((swapB i u b ++ zer (u - j) ++ ((b.drop (u * i)).take j).reverse ++ zer (b.length - u * i - u)).set (u * i + (u - 1 - j)) b[u * i + j]) = (swapB i u b ++ zer (u - (j + 1))) ++ ((b.drop (u * i)).take (j + 1)).reverse ++ zer (b.length - u * i - u) := by
  have e5 : zer (u - j) = zer (u - 1 - j) ++ [0] := by unfold zer; rw [show u - j = (u - 1 - j) + 1 by omega, List.replicate_succ']
  have eq : swapB i u b ++ (zer (u - 1 - j) ++ [0]) ++ ((b.drop (u * i)).take j).reverse ++ zer (b.length - u * i - u) = (swapB i u b ++ zer (u - 1 - j)) ++ 0 :: (((b.drop (u * i)).take j).reverse ++ zer (b.length - u * i - u)) := by
    rw [List.append_assoc, List.append_assoc, List.append_assoc, List.append_assoc]; rfl
  rw [e5, eq, set_at (by rw [List.length_append, hlen]; exact congrArg _ List.length_replicate), List.take_add_one, List.getElem?_drop, List.getElem?_eq_getElem hj', List.reverse_append, Nat.sub_sub, Nat.add_comm 1 j, List.append_assoc (_ ++ _)]
  rfl
noncomputable def bsFor : Stmt := match bodyOf "_byteswap" with | _ :: s :: _ => s | _ => .Pass ⟨0, 0, 0, 0⟩
noncomputable def forBody : Stmt → List Stmt | .For _ _ b _ _ => b | _ => []
noncomputable def forT : Stmt → Expr | .For t _ _ _ _ => t | s => .Name "" s.pos
theorem bs_block (b : List UInt8) (u : Nat) (hb : b.length ≤ 1000000) (hu' : u ≤ 1000000) (M : Bs C) {i : Nat} (hi : u * i + u ≤ b.length) {σ : Store} (h : bsI b u i σ) :
    ∃ σ1, BF C k (namesOf "_byteswap") (forT bsFor) (.int ((u * i : Nat) : Int)) σ σ1 ∧ Ex C k (namesOf "_byteswap") σ1 (forBody bsFor) fun σ' fl => fl = .nxt ∧ bsI b u (i + 1) σ' := by
  conv in (forT _) => whnf
  conv in (forBody _) => whnf
  conv in (namesOf _) => whnf
  obtain ⟨d1, d2, d3⟩ := h
  have h0 := zlt hb
  have hit1 := one_iter hu'
  have r1 : CallG C k (.type "range") [.int (u : Nat)] (.rng 0 (u : Nat) 1) := p_range1
  refine ⟨_, bf_name ?_, x_cons (s_rng (W := bsJ b u i) (gi := fun i => .int (i : Nat)) ?_ hit1 ?_ ?_ fun j hj σ ⟨f1, f2, f3, f4⟩ => ⟨_, bf_name ?_, ?_⟩) (fun σ' h => x_nil ⟨rfl, ?_⟩) fun σ' d h => by cases h.1⟩
  any_goals walk_at "ev"
  · exact ⟨by walk_at "ev", by walk_at "ev", by walk_at "ev", buf_eq (by walk_at "ev") (bs_start hi)⟩
  · have hj' : u * i + j < b.length := by omega
    have hlen : (swapB i u b).length = u * i := swapB_len (by omega)
    have hblk : ((b.drop (u * i)).take j).length = j := by rw [List.length_take, List.length_drop]; omega
    have hz : (swapB i u b ++ zer (u - j) ++ ((b.drop (u * i)).take j).reverse ++ zer (b.length - u * i - u)).length = b.length := by
      simp only [List.length_append, List.length_reverse, hlen, hblk, zer, List.length_replicate]; omega
    have hx : Itm (.bytes b) (.int (((u * i : Nat) : Int) + (j : Nat))) (.int ((b[u * i + j].toNat : Nat) : Int)) := itm_bytes ⟨by omega, by omega, h0⟩ (by
      rw [show (((u * i : Nat) : Int) + (j : Int)).toNat = u * i + j by omega, List.getD_eq_getElem?_getD, List.getElem?_eq_getElem hj']; rfl)
    have ej : (((u * i : Nat) : Int) + (u : Int) - 1 - (j : Int)).toNat = u * i + (u - 1 - j) := by omega
    have h256 := b[u * i + j].toNat_lt
    have hto : ((b[u * i + j].toNat : Nat) : Int).toNat.toUInt8 = b[u * i + j] := UInt8.toNat.inj (by show (UInt8.ofNat _).toNat = _; rw [UInt8.toNat_ofNat', Int.toNat_natCast]; omega)
    have es := set_next hj hlen hj'
    rw [← ej] at es
    refine x_seq (s_setb (u := ((b[u * i + j].toNat : Nat) : Int)) (j := ((u * i : Nat) : Int) + (u : Nat) - 1 - (j : Nat)) ?_ (pt_tl ?_ f4) ?_ ?_ ?_ (by omega) (by omega) (by omega) (by rw [hz]; omega) (by rw [hz]; exact h0)) (x_nil ⟨rfl, ?_, ?_, ?_, buf_eq pt_hd (by rw [hto, es])⟩)
    all_goals walk_at "ev"
  · exact ⟨h.2.1, h.2.2.1, buf_eq h.2.2.2.2 bs_end⟩
theorem ev_byteswap (M : Bs C) (b : List UInt8) (u n : Nat) (hb : b.length ≤ 1000000) (hu : 0 < u) (hu' : u ≤ 1000000) (hn : b.length = u * n) :
    Ex C k (namesOf "_byteswap") [("data", .frz (.bytes b)), ("width", .frz (.int (u : Nat)))] (bodyOf "_byteswap") fun _ fl => fl = .ret (.bytes (swapB n u b)) := by
  have blk := fun i (hi : u * i + u ≤ b.length) σ (h : bsI b u i σ) => bs_block (C := C) (k := k) b u hb hu' M hi h
  conv at blk in (forT _) => whnf
  conv at blk in (forBody _) => whnf
  conv at blk in (namesOf _) => whnf
  conv in (bodyOf _) => whnf
  conv in (namesOf _) => whnf
  have h0 := zlt hb
  have zn : u * n + 0 ≤ 1000000 := by omega
  have hit := blocks_iter (r := 0) hu hu hu' zn
  rw [Nat.add_zero, ← hn, if_pos rfl, Nat.add_zero] at hit
  have r3 : CallG C k (.type "range") [.int 0, .int (b.length : Nat), .int (u : Nat)] (.rng 0 (b.length : Nat) (u : Nat)) := p_range3 ⟨by omega, by omega⟩
  refine x_seq (s_asgn (sl := .buf (List.replicate b.length 0)) (es_bm M (n := b.length) ?_ ?_ ?_ h0) ?_ ?_) (x_cons (s_rng (W := bsI b u) (gi := fun i => .int ((u * i : Nat) : Int)) ?_ hit ?_ ?_ fun i hi σ h => blk i (by rw [hn, ← Nat.mul_succ]; exact Nat.mul_le_mul_left _ hi) σ h) (fun σ' h => ?_) fun σ' d h => by cases h.1)
  any_goals walk_at "ev"
  · exact ⟨by walk_at "ev", by walk_at "ev", by rw [Nat.mul_zero, Nat.sub_zero]; exact pt_hd⟩
  · have e : swapB n u b ++ zer (b.length - u * n) = swapB n u b := by rw [hn, Nat.sub_self]; exact List.append_nil _
    have hz : (swapB n u b).length ≤ lim := by rw [swapB_len (by omega)]; exact hn ▸ h0
    refine x_frzb (buf_eq h.2.2.2 e) (x_ret (d := .bytes (swapB n u b)) ?_ rfl)
    walk_at "ev"
theorem ev_byteswap0 (M : Bs C) (b : List UInt8) (hb : b.length ≤ 1000000) : ExX C k (namesOf "_byteswap") [("data", .frz (.bytes b)), ("width", .frz (.int (0 : Nat)))] (bodyOf "_byteswap") "ValueError" := by
  conv in (bodyOf _) => whnf
  conv in (namesOf _) => whnf
  have h0 := zlt hb
  refine xx_seq (s_asgn (sl := .buf (List.replicate b.length 0)) (es_bm M (n := b.length) ?_ ?_ ?_ h0) ?_ ?_) (xx_hd (sx_for0 (ex_type (ds := [.int 0, .int (b.length : Nat), .int (0 : Nat)]) ?_ px_range ?_ (M.at bv_range).1 (M.at bv_range).2) ?_))
  any_goals walk_at "ev"
theorem ev_byteswapX (M : Bs C) (b : List UInt8) (u n r : Nat) (hb : b.length ≤ 1000000) (hr : 0 < r) (hu : r < u) (hu' : u ≤ 1000000) (hn : b.length = u * n + r) :
    ExX C k (namesOf "_byteswap") [("data", .frz (.bytes b)), ("width", .frz (.int (u : Nat)))] (bodyOf "_byteswap") "IndexError" := by
  have blk := fun i (hi : u * i + u ≤ b.length) σ (h : bsI b u i σ) => bs_block (C := C) (k := k) b u hb hu' M hi h
  conv at blk in (forT _) => whnf
  conv at blk in (forBody _) => whnf
  conv at blk in (namesOf _) => whnf
  conv in (bodyOf _) => whnf
  conv in (namesOf _) => whnf
  have h0 := zlt hb
  have hit := blocks_iter (n := n) (Nat.lt_of_lt_of_le hr (Nat.le_of_lt hu)) hu hu' (hn ▸ hb)
  rw [← hn, if_neg (Nat.ne_of_gt hr)] at hit
  have hit1 := one_iter hu'
  have r3 : CallG C k (.type "range") [.int 0, .int (b.length : Nat), .int (u : Nat)] (.rng 0 (b.length : Nat) (u : Nat)) := p_range3 ⟨by omega, by omega⟩
  have r1 : CallG C k (.type "range") [.int (u : Nat)] (.rng 0 (u : Nat) 1) := p_range1
  refine xx_seq (s_asgn (sl := .buf (List.replicate b.length 0)) (es_bm M (n := b.length) ?_ ?_ ?_ h0) ?_ ?_) (xx_hd (sx_for (W := bsI b u) (n := n) (dn := .int ((u * n : Nat) : Int)) ?_ hit ?_ ?_ ?_ (fun i d hi hd σ h => ?_) fun σ ⟨d1, d2, d3⟩ => ⟨_, bf_name ?_, xx_hd (sx_for (W := fun _ σ' => At σ' "data" (.frz (.bytes b)) ∧ At σ' "width" (.frz (.int (u : Nat))) ∧ At σ' "i" (.frz (.int ((u * n : Nat) : Int))) ∧ At σ' "swapped_data" (.buf (swapB n u b ++ zer (b.length - u * n)))) (n := 0) (dn := .int (0 : Nat)) ?_ hit1 ?_ ⟨?_, ?_, ?_, ?_⟩ ?_ (fun i d hi => absurd hi (Nat.not_lt_zero _)) fun σ ⟨f1, f2, f3, f4⟩ => ⟨_, bf_name ?_, ?_⟩)⟩))
  any_goals walk_at "ev"
  · exact ⟨by walk_at "ev", by walk_at "ev", by rw [Nat.mul_zero, Nat.sub_zero]; exact pt_hd⟩
  · rw [List.getElem?_map, List.getElem?_range (Nat.lt_succ_self n)]; rfl
  · rw [List.getElem?_map, List.getElem?_range (Nat.lt_succ_of_lt hi)] at hd
    cases hd
    exact blk i (by rw [hn, ← Nat.mul_succ]; exact Nat.le_trans (Nat.mul_le_mul_left _ hi) (Nat.le_add_right _ _)) σ h
  · rw [List.getElem?_map, List.getElem?_range (by omega)]; rfl
  · have hj' : u * n < b.length := by omega
    have hlen : (swapB n u b).length = u * n := swapB_len (by omega)
    have hz : (swapB n u b ++ zer (b.length - u * n)).length = b.length := by
      simp only [List.length_append, hlen, zer, List.length_replicate]; omega
    have hx : Itm (.bytes b) (.int (((u * n : Nat) : Int) + (0 : Nat))) (.int ((b[u * n].toNat : Nat) : Int)) := itm_bytes ⟨by omega, by omega, h0⟩ (by
      rw [show (((u * n : Nat) : Int) + ((0 : Nat) : Int)).toNat = u * n by omega, List.getD_eq_getElem?_getD, List.getElem?_eq_getElem hj']; rfl)
    have h256 := b[u * n].toNat_lt
    refine xx_hd (sx_setb (u := ((b[u * n].toNat : Nat) : Int)) (j := ((u * n : Nat) : Int) + (u : Nat) - 1 - (0 : Nat)) ?_ (pt_tl ?_ f4) ?_ ?_ ?_ (by omega) (by omega) (by rw [hz]; omega) (by simp only [lim]; omega) (by rw [hz]; exact h0))
    all_goals walk_at "ev"
end
section
open PySem PySem.W PyProof.Rows
set_option maxRecDepth 100000
variable {C : Mod} {k : Nat}
/-! the reading as plain functions -/
noncomputable def full (l : List (List Pair)) : List (List Pair) := l.filter fun x => !x.isEmpty
theorem full_len (ls : List (List Pair)) : (full ls).length ≤ ls.length := List.length_filter_le _ _
noncomputable def quoR (y : T) : Option (T × T) :=
  let i := span sp y
  let p := i + 1 + span sp (y.drop (i + 1))
  if y[i]? = some 61 ∧ y[p]? = some 34 then (qend (y.drop (p + 1))).map fun k => ((y.take (p + 1 + k)).drop (p + 1), y.drop (p + 1 + k + 1)) else none
noncomputable def valR (y : T) : Option (T × T) :=
  let i := span sp y
  if y[i]? = some 61 then
    let p := i + 1 + span sp (y.drop (i + 1))
    let j := span valP (y.drop p)
    some ((y.take (p + j)).drop p, y.drop (p + j))
  else none
noncomputable def rst (v : T) : T := (v.reverse.dropWhile Unicode.isSpace).reverse
noncomputable def afterTok (y : T) : Option T × T := match quoR y with
  | some (v, r) => (some (unesc v), r)
  | none => match valR y with
    | some (v, r) => (some (rst v), r)
    | none => (none, y)
noncomputable def tokR (x : T) : Option (T × T) :=
  let i := span sp x
  let j := span tokP (x.drop i)
  if j = 0 then none else some ((x.take (i + j)).drop i, x.drop (i + j))
noncomputable def spl : Nat → T → List Pair → List (List Pair) → List Pair × List (List Pair)
  | 0, _, ps, rs => (ps, rs)
  | n + 1, x, ps, rs => if x = [] then (ps, rs) else
    match tokR x with
    | some (k, y) => spl n (afterTok y).2 (ps ++ [(k, (afterTok y).1)]) rs
    | none => if (x.dropWhile sp).head? = some 44 then spl n ((x.dropWhile sp).drop 1) [] (if ps.isEmpty then rs else rs ++ [ps])
      else spl n (x.drop (span junkP x)) ps rs
noncomputable def closeL (p : List Pair × List (List Pair)) : List (List Pair) := if p.1.isEmpty then p.2 else p.2 ++ [p.1]
noncomputable def readAll : List T → List (List Pair) → List (List Pair)
  | [], rs => rs
  | x :: xs, rs => readAll xs (closeL (spl (x.length + 1) x [] rs))
noncomputable def split (xs : List T) : List (List Pair) := readAll xs []
noncomputable def subOfE : Expr → Option Expr
  | .Call (.Attribute o name p) args kw q => if name = Str.ofString "sub" then some (.Call (.Attribute o name p) args kw q) else none
  | _ => none
noncomputable def subOfS : Nat → Stmt → Option Expr
  | 0, _ => none
  | n + 1, st => match st with
    | .Assign _ e _ => subOfE e
    | .If _ b o _ => (b ++ o).findSome? (subOfS n)
    | .For _ _ b _ _ => b.findSome? (subOfS n)
    | .While _ b _ _ => b.findSome? (subOfS n)
    | _ => none
noncomputable def subOf (f : Str) : Expr := ((bodyOf f).findSome? (subOfS 8)).getD (.Name f ⟨0, 0, 0, 0⟩)
theorem span_le' (P : Nat → Bool) (l : T) : span P l ≤ l.length := by
  unfold span
  exact (List.takeWhile_sublist P).length_le
theorem tok_cases (x : T) (hx : x ≠ []) : (tokR x = none ∧ findTok x = .none) ∨ ∃ b e : Nat, b < e ∧ e ≤ x.length ∧ findTok x = .mat x [0, (e : Int), (b : Int), (e : Int)] ∧ tokR x = some ((x.take e).drop b, x.drop e) := by
  have he : x.isEmpty = false := by cases x with | nil => exact absurd rfl hx | cons c l => rfl
  unfold tokR findTok
  simp only [he, Bool.false_eq_true, if_false]
  by_cases h : span tokP (x.drop (span sp x)) = 0
  · left; simp only [h, if_true]; exact ⟨trivial, trivial⟩
  · right
    have h1 := span_le' tokP (x.drop (span sp x))
    have h2 := span_le' sp x
    rw [List.length_drop] at h1
    exact ⟨span sp x, span sp x + span tokP (x.drop (span sp x)), by omega, by omega, by rw [if_neg h], by rw [if_neg h]⟩
theorem qend_lt : ∀ (l : T) (k : Nat), qend l = some k → k < l.length
  | [], k, h => by simp [qend] at h
  | [c], k, h => by
    unfold qend at h
    split at h
    · cases h; simp
    · cases h
  | c :: d :: r, k, h => by
    unfold qend at h
    split at h
    · cases h; simp
    · split at h
      · split at h
        · cases h
        · rw [Option.map_eq_some_iff] at h
          obtain ⟨j, hj, rfl⟩ := h
          have := qend_lt r j hj
          simp only [List.length_cons]; omega
      · rw [Option.map_eq_some_iff] at h
        obtain ⟨j, hj, rfl⟩ := h
        have := qend_lt (d :: r) j hj
        simp only [List.length_cons] at this ⊢; omega
theorem quo_cases (y : T) : (quoR y = none ∧ findQuo y = .none) ∨ ∃ b c e : Nat, b ≤ c ∧ c < e ∧ e ≤ y.length ∧ findQuo y = .mat y [0, (e : Int), (b : Int), (c : Int)] ∧ quoR y = some ((y.take c).drop b, y.drop e) := by
  unfold quoR findQuo
  simp only
  split
  · rename_i h
    cases hk : qend (y.drop (span sp y + 1 + span sp (y.drop (span sp y + 1)) + 1)) with
    | none => left; exact ⟨rfl, rfl⟩
    | some k =>
      right
      have := qend_lt _ _ hk
      rw [List.length_drop] at this
      exact ⟨_, _, _, by omega, by omega, by omega, rfl, rfl⟩
  · left; exact ⟨rfl, rfl⟩
theorem val_cases (y : T) : (valR y = none ∧ findVal y = .none) ∨ ∃ b e : Nat, b ≤ e ∧ 0 < e ∧ e ≤ y.length ∧ findVal y = .mat y [0, (e : Int), (b : Int), (e : Int)] ∧ valR y = some ((y.take e).drop b, y.drop e) := by
  unfold valR findVal
  simp only
  split
  · rename_i h
    right
    have h0 : span sp y < y.length := by
      rcases Nat.lt_or_ge (span sp y) y.length with h' | h'
      · exact h'
      · rw [List.getElem?_eq_none h'] at h; cases h
    have h1 := span_le' sp (y.drop (span sp y + 1))
    have h2 := span_le' valP (y.drop (span sp y + 1 + span sp (y.drop (span sp y + 1))))
    rw [List.length_drop] at h1 h2
    exact ⟨_, _, by omega, by omega, by omega, rfl, rfl⟩
  · left; exact ⟨rfl, rfl⟩
theorem after_len (y : T) : (afterTok y).2.length ≤ y.length := by
  unfold afterTok
  rcases quo_cases y with ⟨h, _⟩ | ⟨b, c, e, _, _, _, _, h⟩
  · rw [h]
    rcases val_cases y with ⟨h, _⟩ | ⟨b, e, _, _, _, _, h⟩
    · rw [h]; exact Nat.le_refl _
    · rw [h]; simp
  · rw [h]; simp
theorem dw_span (P : Nat → Bool) (l : T) : l.dropWhile P = l.drop (span P l) := by
  unfold span
  induction l with
  | nil => rfl
  | cons c l ih =>
    rw [List.dropWhile_cons, List.takeWhile_cons]
    cases P c
    · rfl
    · simp only [if_true, List.length_cons, List.drop_succ_cons]; exact ih
theorem junk_pos {x : T} (hx : x ≠ []) (h1 : tokR x = none) (h2 : (x.dropWhile sp).head? ≠ some 44) : 0 < span junkP x := by
  match x, hx with
  | c :: l, _ =>
    have hj : junkP c = true := by
      by_cases hc : sp c = true
      · unfold junkP; rw [hc]; simp
      · have hc' : sp c = false := by simpa using hc
        have e0 : span sp (c :: l) = 0 := by unfold span; rw [List.takeWhile_cons, hc']; rfl
        have e1 : (c :: l).dropWhile sp = c :: l := by rw [List.dropWhile_cons, hc']; rfl
        rw [e1] at h2
        unfold tokR at h1
        simp only [e0, List.drop_zero] at h1
        have ht : tokP c = false := by
          cases ht : tokP c with
          | false => rfl
          | true =>
            have : span tokP (c :: l) ≠ 0 := by unfold span; rw [List.takeWhile_cons, ht]; simp
            rw [if_neg this] at h1; cases h1
        have h44 : c ≠ 44 := fun q => h2 (by rw [q]; rfl)
        unfold tokP at ht
        rw [hc'] at ht
        unfold junkP
        rw [hc']
        simp at ht ⊢
        omega
    unfold span
    rw [List.takeWhile_cons, hj]; simp
theorem spl_nil (n : Nat) (ps : List Pair) (rs : List (List Pair)) : spl n [] ps rs = (ps, rs) := by cases n <;> simp [spl]
theorem spl_fuel : ∀ (n m : Nat) (x : T) (ps : List Pair) (rs : List (List Pair)), x.length < n → x.length < m → spl n x ps rs = spl m x ps rs
  | 0, m, x, ps, rs, h, _ => by omega
  | n + 1, 0, x, ps, rs, _, h => by omega
  | n + 1, m + 1, x, ps, rs, h1, h2 => by
    by_cases hx : x = []
    · subst hx; rw [spl_nil, spl_nil]
    · unfold spl
      rw [if_neg hx, if_neg hx]
      have hpos : 0 < x.length := by cases x with | nil => exact absurd rfl hx | cons c l => simp
      rcases tok_cases x hx with ⟨ht, _⟩ | ⟨b, e, hb, he, _, ht⟩
      · rw [ht]
        simp only
        split
        · have : ((x.dropWhile sp).drop 1).length < x.length := by
            rw [List.length_drop]
            have := (List.dropWhile_sublist sp (l := x)).length_le
            omega
          exact spl_fuel n m _ _ _ (by omega) (by omega)
        · rename_i hc
          have := junk_pos hx ht hc
          exact spl_fuel n m _ _ _ (by rw [List.length_drop]; omega) (by rw [List.length_drop]; omega)
      · rw [ht]
        simp only
        have := after_len (x.drop e)
        rw [List.length_drop] at this
        exact spl_fuel n m _ _ _ (by omega) (by omega)
noncomputable def lamArgs : Expr → Arguments
  | .Call _ (.Lambda a _ _ _ :: _) _ _ => a
  | _ => ⟨[], [], none, [], [], none, []⟩
noncomputable def lamBody : Expr → Expr
  | .Call _ (.Lambda _ b _ _ :: _) _ _ => b
  | e => e
noncomputable def lamScope : Expr → Option Scope
  | .Call _ (.Lambda _ _ s _ :: _) _ _ => some s
  | _ => none
noncomputable def lamPos : Expr → Pos
  | .Call _ (.Lambda _ _ _ p :: _) _ _ => p
  | _ => ⟨0, 0, 0, 0⟩
structure Pats where
  t : Addr
  q : Addr
  v : Addr
  w : Addr
  j : Addr
  e : Addr
  je : Addr
theorem cut_len {x : T} {b e : Nat} (h : x.length ≤ 1000000) : ((x.take e).drop b).length ≤ 1000000 := by rw [List.length_drop, List.length_take]; omega
theorem lam_val {x pre : T} {sc : Names} {st en b e : Nat} {p : Str} {p1 p2 p3 p4 p5 p6 p7 p8 : Pos} {k1 k2 k3 : Nat} {lit e0 : Str} (hl : lit.cps.toList = pre) (h0 : e0.cps.toList = []) (hp : pre.length ≤ 1) (hx : x.length ≤ 1000000)
    (hv : (isVar (sc.lookup p) && !(p == ("__debug__" : Str)) && !(p == ("__classdict__" : Str))) = true) (hline : (p2.endLine == p4.line) = true) :
    Ev C k sc (ups (fun _ => none) p (.mat x [((st : Nat) : Int), ((en : Nat) : Int), ((b : Nat) : Int), ((e : Nat) : Int)]))
      (.BinOp (.Constant (.str lit) k1 p8) .Add (.BoolOp .Or [.Call (.Attribute (.Name p p3) "group" p2) [.Constant (.int 1) k2 p5] [] p4, .Constant (.str e0) k3 p6] p7) p1) (.str (pre ++ (x.take e).drop b)) := by
  have hc := cut_len (b := b) (e := e) hx
  have hg : Ev C k sc (ups (fun _ => none) p (.mat x [((st : Nat) : Int), ((en : Nat) : Int), ((b : Nat) : Int), ((e : Nat) : Int)])) (.Call (.Attribute (.Name p p3) "group" p2) [.Constant (.int 1) k2 p5] [] p4) (.str ((x.take e).drop b)) :=
    e_meth (e_var up_hd hv) (r_of (l_cons e_int l_nil rfl) rfl) (m_group (zlt hx)) rfl hline rfl
  generalize (x.take e).drop b = y at *
  refine e_bin (e_lit hl) (b := .str y) ?_ (bi_str (by simp only [lim]; omega))
  cases y with
  | nil => exact e_orF hg (tr_str (Nat.zero_le _)) (e_lit h0)
  | cons c y => exact e_orT hg (tr_str (zlt hc))
structure ModF (C : Mod) (P : Pats) : Prop where
  bs : Bs C
  gT : C.mg ("HEADER_TOKEN_RE" : Str) = some (.ref P.t)
  gQ : C.mg ("HEADER_QUOTED_VALUE_RE" : Str) = some (.ref P.q)
  gV : C.mg ("HEADER_VALUE_RE" : Str) = some (.ref P.v)
  gW : C.mg ("_twin_re_7" : Str) = some (.ref P.w)
  gJ : C.mg ("HEADER_JOIN_TOKEN_RE" : Str) = some (.ref P.j)
  gE : C.mg ("HEADER_ESCAPE_RE" : Str) = some (.ref P.e)
  gJE : C.mg ("HEADER_JOIN_ESCAPE_RE" : Str) = some (.ref P.je)
  pT : ∀ g, C.Base g → PatAt g P.t codeTok 1
  pQ : ∀ g, C.Base g → PatAt g P.q codeQuo 1
  pV : ∀ g, C.Base g → PatAt g P.v codeVal 1
  pW : ∀ g, C.Base g → PatAt g P.w codeTwin 0
  pJ : ∀ g, C.Base g → PatAt g P.j codeJTok 0
  pE : ∀ g, C.Base g → PatAt g P.e codeEsc 1
  pJE : ∀ g, C.Base g → PatAt g P.je codeJEsc 1
  lam1 : ∃ cc PT qn scope, lamScope (subOf "split_header_words") = some scope ∧ LamOK C cc PT qn (lamPos (subOf "split_header_words")) (lamArgs (subOf "split_header_words")) (lamBody (subOf "split_header_words")) scope "_m" ∧ C.codeOf (namesOf "split_header_words") = some (.ref cc, qn)
  lam2 : ∃ cc PT qn scope, lamScope (subOf "join_header_words") = some scope ∧ LamOK C cc PT qn (lamPos (subOf "join_header_words")) (lamArgs (subOf "join_header_words")) (lamBody (subOf "join_header_words")) scope "_m" ∧ C.codeOf (namesOf "join_header_words") = some (.ref cc, qn)
theorem e_subS {P : Pats} (M : ModF C P) {ρ : Ct} {x : T} (hρ : ρ "value" = some (.str x)) (hx : x.length ≤ 1000000) : Ev C (k + 2) (namesOf "split_header_words") ρ (subOf "split_header_words") (.str (unesc x)) := by
  refine Classical.byContradiction fun ng0 => ?_
  obtain ⟨cc, PT, qn, scope, h1, L, hcode⟩ := M.lam1
  refine ng0 ?_
  conv at L in (lamPos _) => whnf
  conv at L in (lamArgs _) => whnf
  conv at L in (lamBody _) => whnf
  conv at h1 => lhs; whnf
  injection h1 with h1
  subst h1
  conv in (subOf _) => whnf
  exact e_sub L (esc_spec hx) hx M.gE M.pE hρ hcode (fun st en b e _ _ => lam_val (pre := []) lt0 lt0 (Nat.zero_le _) hx (by kernel_rfl) (by kernel_rfl)) (by kernel_rfl)
theorem e_subJ {P : Pats} (M : ModF C P) {ρ : Ct} {x : T} (hρ : ρ "v" = some (.str x)) (hx : x.length ≤ 1000000) : Ev C (k + 2) (namesOf "join_header_words") ρ (subOf "join_header_words") (.str (jesc x)) := by
  refine Classical.byContradiction fun ng0 => ?_
  obtain ⟨cc, PT, qn, scope, h1, L, hcode⟩ := M.lam2
  refine ng0 ?_
  conv at L in (lamPos _) => whnf
  conv at L in (lamArgs _) => whnf
  conv at L in (lamBody _) => whnf
  conv at h1 => lhs; whnf
  injection h1 with h1
  subst h1
  conv in (subOf _) => whnf
  exact e_sub L (jesc_spec hx) hx M.gJE M.pJE hρ hcode (fun st en b e _ _ => lam_val (pre := [92]) lt8 lt0 (Nat.le_refl _) hx (by kernel_rfl) (by kernel_rfl)) (by kernel_rfl)
end
section
open PySem PySem.W PyProof.Rows
set_option maxRecDepth 100000
set_option maxHeartbeats 4000000
variable {C : Mod} {k : Nat}
noncomputable def clNow (c : Nat) (i e : Bool) : Bool := if decide (c = 34) = true then true else if decide (c = 92) = true then e else i
noncomputable def clRun : T → Bool → Bool → List Bool
  | [], _, _ => []
  | c :: r, i, e => clNow c i e :: clRun r (clNow c i e) (i && !decide (c = 10))
noncomputable def closedOf (x : T) : List Bool := (false :: clRun x false false).reverse
inductive clI (x : T) (j : Nat) (σ : Store) : Prop
  | mk (i e : Bool) (row : List Bool) (_ : row ++ clRun (x.drop j) i e = false :: clRun x false false) (_ : row.length ≤ j + 1) (_ : At σ "row" (.own (row.map .bool))) (_ : At σ "inside" (.frz (.bool i))) (_ : At σ "escaped" (.frz (.bool e)))
theorem ev_closed (x : T) (hx : x.length ≤ 1000000) (hc : ∀ c ∈ x, c < 55296) : Ex C k (namesOf "_law_closed") [("image", .frz (.str x))] (bodyOf "_law_closed") fun _ fl => fl = .ret (.list ((closedOf x).map .bool)) := by
  conv in (bodyOf _) => whnf
  conv in (namesOf _) => whnf
  have h0 := zlt hx
  refine x_seq (s_tup3 (a := .own [.bool false]) (b := .frz (.bool false)) (c := .frz (.bool false)) (es_list (l_cons e_bool l_nil rfl) (Nat.le_of_ble_eq_true rfl)) (es_ev e_bool) (es_ev e_bool) ?_ ?_ ?_ ?_ ?_ ?_ ?_ ?_ ?_ ?sw) (x_cons (s_forM (W := clI x) (l := x) (gi := fun c => .str [c]) ?_ (it_str h0) ?_ ⟨false, false, [false], rfl, Nat.le_refl _, At.eq (a := .own [.bool false]) ?_ rfl, ?_, ?_⟩ ?_) (fun σ ⟨_, i, e, row, hr, hl, f, _, _⟩ => ?_) fun σ' d h => by cases h.1)
  case sw => intro env h1 h2; right; cases env with | mk scope _ _ _ _ _ _ _ _ => cases scope; cases h1; cases h2; kernel_rfl
  any_goals walk_at "ev"
  · intro j c hxj σ ⟨i, e, row, hr, hl, f1, f2, f3⟩
    have hj := (List.getElem?_eq_some_iff.mp hxj).1
    have hcc := hc c (List.mem_of_getElem? hxj)
    rw [List.drop_eq_getElem_cons hj, (List.getElem?_eq_some_iff.mp hxj).2] at hr
    have hrl : (row.map D.bool).length ≤ lim := len_map (by simp only [lim]; omega)
    have q1 : Cmp C k .Eq (.str [c]) (.str [34]) (decide (c = 34)) := c_eqc hcc (by decide)
    have q2 : Cmp C k .Eq (.str [c]) (.str [92]) (decide (c = 92)) := c_eqc hcc (by decide)
    have q3 : Cmp C k .NotEq (.str [c]) (.str [10]) (!decide (c = 10)) := c_nec hcc (by decide)
    have en : (if decide (c = 34) = true then D.bool true else if decide (c = 92) = true then .bool e else .bool i) = .bool (clNow c i e) := by
      unfold clNow
      cases decide (c = 34) <;> cases decide (c = 92) <;> rfl
    refine ⟨_, bf_name ?_, x_seq (s_asgn (sl := .frz (.bool (clNow c i e))) (es_ev (ev_eq (e_if (c := decide (c = 34)) (t_cmp ?_ ?_ q1 ?_) e_bool (e_if (c := decide (c = 92)) (t_cmp ?_ ?_ q2 ?_) ?_ ?_)) en)) ?_ ?_) (x_seq (s_tup2 (a := .frz (.bool (clNow c i e))) (b := .frz (.bool (i && !decide (c = 10)))) (es_ev ?_) (es_ev (e_andB ?_ (e_cmp ?_ ?_ q3 ?_))) ?_ ?_ ?_ ?_ ?_ ?sw2) (x_seq (s_app (xs := row.map .bool) (d := .bool (clNow c i e)) ?_ ?_ ?_ ?_ hrl ?_) (x_nil ⟨rfl, clNow c i e, i && !decide (c = 10), row ++ [clNow c i e], by rw [List.append_assoc]; exact hr, by rw [List.length_append, List.length_singleton]; omega, pt_hd.trans (by rw [List.map_append]; rfl), ?_, ?_⟩)))⟩
    case sw2 => intro env h1 h2; right; cases env with | mk scope _ _ _ _ _ _ _ _ => cases scope; cases h1; cases h2; kernel_rfl
    all_goals walk_at "ev"
  · rw [List.drop_length] at hr
    have hr : row = false :: clRun x false false := by have : clRun [] i e = [] := rfl; rw [this, List.append_nil] at hr; exact hr
    have hz : (row.map D.bool).length ≤ lim := len_map (by simp only [lim]; omega)
    have er : (row.map D.bool).reverse = (closedOf x).map .bool := by rw [hr, ← List.map_reverse]; rfl
    refine x_frzo f (x_ret (d := .list ((closedOf x).map .bool)) (ev_eq (d := .list (row.map D.bool).reverse) ?_ (congrArg D.list er)) rfl)
    walk_at "ev"
end
section
open PySem PySem.W PyProof.Rows
set_option maxRecDepth 100000
set_option maxHeartbeats 4000000
variable {C : Mod} {k : Nat} {sc : Names} {ρ : Ct}
theorem nod5 {x y z u v : Str} (h1 : (y == x) = false) (h2 : (z == x) = false) (h3 : (u == x) = false) (h4 : (v == x) = false) (h : [y, z, u, v].Nodup) : [x, y, z, u, v].Nodup := List.nodup_cons.mpr ⟨fun q => by
  simp only [List.mem_cons, List.not_mem_nil, or_false] at q
  rcases q with rfl | rfl | rfl | rfl <;> simp at h1 h2 h3 h4, h⟩
theorem s_tup5 {σ : Store} {x y z u v : Str} {p1 p2 p3 p4 p5 e1 e2 e3 e4 e5 a b c d e kk kk' q1 q2 q3} (h1 : EvS C k sc (fz σ) e1 a) (h2 : EvS C k sc (fz σ) e2 b) (h3 : EvS C k sc (fz σ) e3 c) (h4 : EvS C k sc (fz σ) e4 d) (h5 : EvS C k sc (fz σ) e5 e)
    (s1 : isStar e1 = false) (s2 : isStar e2 = false) (s3 : isStar e3 = false) (s4 : isStar e4 = false) (s5 : isStar e5 = false) (hn : [x, y, z, u, v].Nodup) (hs : ∀ t ∈ [(x, p1), (y, p2), (z, p3), (u, p4), (v, p5)], storable sc t.1 = true)
    (hsw : Sw sc [(x, p1), (y, p2), (z, p3), (u, p4), (v, p5)] kk q1 (.Tuple [e1, e2, e3, e4, e5] kk' q2)) :
    S1 C k sc σ (.Assign [.Tuple [.Name x p1, .Name y p2, .Name z p3, .Name u p4, .Name v p5] kk q1] (.Tuple [e1, e2, e3, e4, e5] kk' q2) q3) (put (put (put (put (put σ x a) y b) z c) u d) v e) :=
  s_tup (tg := [(x, p1), (y, p2), (z, p3), (u, p4), (v, p5)]) (sls := [a, b, c, d, e]) (ss_cons h1 (ss_cons h2 (ss_cons h3 (ss_cons h4 (ss_cons h5 ss_nil s5) s4) s3) s2) s1) rfl hn hs (Nat.le_of_ble_eq_true rfl) hsw rfl
structure RS where
  ls : List (List Pair)
  ws : List Pair
  st : Int
  nm : T
  vl : T
noncomputable abbrev wsp (c : Nat) : Bool := [32, 9, 13, 10].contains c
noncomputable def rclose (s : RS) : List Pair := if decide (0 < s.st) = true then s.ws ++ [(s.nm, if decide (s.st < 3) = true then none else some s.vl)] else s.ws
noncomputable def rs10 (s : RS) (c : Nat) : RS := if (!wsp c && (![61, 59].contains c && true)) = true then ⟨s.ls, rclose s, 1, [c], s.vl⟩ else ⟨s.ls, rclose s, 0, s.nm, s.vl⟩
noncomputable def rs9 (s : RS) (c : Nat) : RS := if decide (c = 44) = true then ⟨s.ls ++ [rclose s], [], 0, s.nm, s.vl⟩ else rs10 s c
noncomputable def rs8 (s : RS) (c : Nat) : RS := if (wsp c && (decide (s.st < 4) && true)) = true then ⟨s.ls, s.ws, if decide (s.st = 1) = true then 2 else s.st, s.nm, s.vl⟩ else rs9 s c
noncomputable def rs7 (s : RS) (c : Nat) : RS := if ([1, 2].any (· == s.st) && (decide (c = 61) && true)) = true then ⟨s.ls, s.ws, 3, s.nm, []⟩ else rs8 s c
noncomputable def rs6 (s : RS) (c : Nat) : RS := if (decide (s.st = 1) && (!wsp c && (![61, 59, 44].contains c && true))) = true then ⟨s.ls, s.ws, s.st, s.nm ++ [c], s.vl⟩ else rs7 s c
noncomputable def rs5 (s : RS) (c : Nat) : RS := if ([3, 4].any (· == s.st) && (!wsp c && (![59, 44].contains c && true))) = true then ⟨s.ls, s.ws, 4, s.nm, s.vl ++ [c]⟩ else rs6 s c
noncomputable def rs4 (cl : Bool) (s : RS) (c : Nat) : RS := if (decide (s.st = 3) && (decide (c = 34) && (cl && true))) = true then ⟨s.ls, s.ws, 5, s.nm, s.vl⟩ else rs5 s c
noncomputable def rs3 (cl : Bool) (s : RS) (c : Nat) : RS := if decide (s.st = 5) = true then (if decide (c = 92) = true then ⟨s.ls, s.ws, 6, s.nm, s.vl⟩ else ⟨s.ls, s.ws, 5, s.nm, s.vl ++ [c]⟩) else rs4 cl s c
noncomputable def rs2 (cl : Bool) (s : RS) (c : Nat) : RS := if (decide (s.st = 5) && (decide (c = 34) && true)) = true then ⟨s.ls, s.ws ++ [(s.nm, some s.vl)], 0, s.nm, s.vl⟩ else rs3 cl s c
noncomputable def rstep (cl : Bool) (s : RS) (c : Nat) : RS := if decide (s.st = 6) = true then ⟨s.ls, s.ws, 5, s.nm, s.vl ++ [c]⟩ else rs2 cl s c
structure RB (i : Nat) (s : RS) : Prop where
  nm : s.nm.length ≤ i ∧ okT s.nm = true
  vl : s.vl.length ≤ i ∧ okT s.vl = true
  ws : s.ws.length ≤ i ∧ ∀ p ∈ s.ws, okP p = true
  ls : s.ls.length ≤ i ∧ ∀ l ∈ s.ls, ∀ p ∈ l, okP p = true
theorem ok_snoc {i c : Nat} {x : T} (hc : c < 55296) (h : x.length ≤ i ∧ okT x = true) : (x ++ [c]).length ≤ i + 1 ∧ okT (x ++ [c]) = true := by
  refine ⟨by rw [List.length_append, List.length_singleton]; omega, ?_⟩
  have h2 := h.2
  unfold okT at h2 ⊢
  rw [List.all_append, h2]
  simp [hc]
theorem ok_up {i : Nat} {x : T} (h : x.length ≤ i ∧ okT x = true) : x.length ≤ i + 1 ∧ okT x = true := ⟨Nat.le_succ_of_le h.1, h.2⟩
theorem RB.close {i : Nat} {s : RS} (h : RB i s) : (rclose s).length ≤ i + 1 ∧ ∀ p ∈ rclose s, okP p = true := by
  unfold rclose
  split
  · refine ⟨by rw [List.length_append, List.length_singleton]; have := h.ws.1; omega, fun p hp => ?_⟩
    rcases List.mem_append.mp hp with hp | hp
    · exact h.ws.2 p hp
    · rw [List.mem_singleton.mp hp]
      unfold okP
      rw [Bool.and_eq_true]
      refine ⟨h.nm.2, ?_⟩
      cases decide (s.st < 3)
      · exact h.vl.2
      · rfl
  · exact ⟨Nat.le_succ_of_le h.ws.1, h.ws.2⟩
theorem rb_step {i c : Nat} {s : RS} {cl : Bool} (hc : c < 55296) (h : RB i s) : RB (i + 1) (rstep cl s c) := by
  have u1 := ok_up h.nm
  have u2 := ok_up h.vl
  have u3 : s.ws.length ≤ i + 1 ∧ ∀ p ∈ s.ws, okP p = true := ⟨Nat.le_succ_of_le h.ws.1, h.ws.2⟩
  have u4 : s.ls.length ≤ i + 1 ∧ ∀ l ∈ s.ls, ∀ p ∈ l, okP p = true := ⟨Nat.le_succ_of_le h.ls.1, h.ls.2⟩
  have n1 := ok_snoc hc h.nm
  have n2 := ok_snoc hc h.vl
  have cz := h.close
  have one : ([c] : T).length ≤ i + 1 ∧ okT [c] = true := ⟨by rw [List.length_singleton]; omega, by unfold okT; simp [hc]⟩
  have nil : ([] : T).length ≤ i + 1 ∧ okT [] = true := ⟨Nat.zero_le _, rfl⟩
  have wn : (s.ws ++ [(s.nm, some s.vl)]).length ≤ i + 1 ∧ ∀ p ∈ s.ws ++ [(s.nm, some s.vl)], okP p = true := ⟨by rw [List.length_append, List.length_singleton]; have := h.ws.1; omega, fun p hp => by
    rcases List.mem_append.mp hp with hp | hp
    · exact h.ws.2 p hp
    · rw [List.mem_singleton.mp hp]; unfold okP; rw [Bool.and_eq_true]; exact ⟨h.nm.2, h.vl.2⟩⟩
  have k10 : RB (i + 1) (rs10 s c) := by
    unfold rs10; split
    · exact ⟨one, u2, cz, u4⟩
    · exact ⟨u1, u2, cz, u4⟩
  have k9 : RB (i + 1) (rs9 s c) := by
    unfold rs9; split
    · refine ⟨u1, u2, ⟨Nat.zero_le _, fun p hp => by cases hp⟩, by show (s.ls ++ [rclose s]).length ≤ _; rw [List.length_append, List.length_singleton]; have := h.ls.1; omega, fun l hl => ?_⟩
      rcases List.mem_append.mp hl with hl | hl
      · exact h.ls.2 l hl
      · rw [List.mem_singleton.mp hl]; exact cz.2
    · exact k10
  have k8 : RB (i + 1) (rs8 s c) := by
    unfold rs8; split
    · exact ⟨u1, u2, u3, u4⟩
    · exact k9
  have k7 : RB (i + 1) (rs7 s c) := by
    unfold rs7; split
    · exact ⟨u1, nil, u3, u4⟩
    · exact k8
  have k6 : RB (i + 1) (rs6 s c) := by
    unfold rs6; split
    · exact ⟨n1, u2, u3, u4⟩
    · exact k7
  have k5 : RB (i + 1) (rs5 s c) := by
    unfold rs5; split
    · exact ⟨u1, n2, u3, u4⟩
    · exact k6
  have k4 : RB (i + 1) (rs4 cl s c) := by
    unfold rs4; split
    · exact ⟨u1, u2, u3, u4⟩
    · exact k5
  have k3 : RB (i + 1) (rs3 cl s c) := by
    unfold rs3; split
    · split
      · exact ⟨u1, u2, u3, u4⟩
      · exact ⟨u1, n2, u3, u4⟩
    · exact k4
  have k2 : RB (i + 1) (rs2 cl s c) := by
    unfold rs2; split
    · exact ⟨u1, u2, wn, u4⟩
    · exact k3
  unfold rstep; split
  · exact ⟨u1, n2, u3, u4⟩
  · exact k2
noncomputable def rfold (x : T) (cl : List Bool) : Nat → RS
  | 0 => ⟨[], [], 0, [], []⟩
  | i + 1 => rstep (cl.getD (i + 1) false) (rfold x cl i) (x.getD i 0)
noncomputable def rres (s : RS) : List (List Pair) := full (s.ls ++ [rclose s])
theorem rb_fold {x : T} {cl : List Bool} (hc : ∀ c ∈ x, c < 55296) : ∀ {i : Nat}, i ≤ x.length → RB i (rfold x cl i)
  | 0, _ => ⟨⟨Nat.le_refl _, rfl⟩, ⟨Nat.le_refl _, rfl⟩, ⟨Nat.le_refl _, fun p hp => by cases hp⟩, ⟨Nat.le_refl _, fun p hp => by cases hp⟩⟩
  | i + 1, h => rb_step (by
    rw [List.getD_eq_getElem?_getD, List.getElem?_eq_getElem h]
    exact hc _ (List.getElem_mem _)) (rb_fold hc (Nat.le_of_lt h))
theorem if_t {α : Type} {b : Bool} {x y : α} (h : b = true) : (if b = true then x else y) = x := if_pos h
theorem if_f {α : Type} {b : Bool} {x y : α} (h : b = false) : (if b = true then x else y) = y := if_neg (by rw [h]; exact Bool.false_ne_true)
inductive rA (x : T) (cl : List Bool) (s : RS) (σ : Store) : Prop
  | mk (_ : At σ "text" (.frz (.str x))) (_ : At σ "closed" (.frz (.list (cl.map .bool)))) (_ : At σ "lists" (.frz (dL s.ls))) (_ : At σ "words" (.frz (dW s.ws))) (_ : At σ "state" (.frz (.int s.st))) (_ : At σ "name" (.frz (.str s.nm))) (_ : At σ "value" (.frz (.str s.vl)))
theorem bi_W {a : List Pair} {p : Pair} {d : D} (e : dP p = d) (h : a.length < lim) : Bin C k .Add (dW a) (.list [d]) (dW (a ++ [p])) := by
  have := bi_list (C := C) (k := k) (x := a.map dP) (y := [d]) (by rw [List.length_map]; exact h)
  subst e
  rw [show a.map dP ++ [dP p] = (a ++ [p]).map dP by rw [List.map_append]; rfl] at this
  exact this
theorem bi_L {a : List (List Pair)} {w : List Pair} (h : a.length < lim) : Bin C k .Add (dL a) (.list [dW w]) (dL (a ++ [w])) := by
  have := bi_list (C := C) (k := k) (x := a.map dW) (y := [dW w]) (by rw [List.length_map]; exact h)
  rw [show a.map dW ++ [dW w] = (a ++ [w]).map dW by rw [List.map_append]; rfl] at this
  exact this
end
section
open PySem PySem.W PyProof.Rows
set_option maxRecDepth 100000
set_option maxHeartbeats 4000000
variable {C : Mod} {k : Nat}
noncomputable def rdFor : Stmt := match bodyOf "_law_read" with | _ :: s :: _ => s | _ => .Pass ⟨0, 0, 0, 0⟩
theorem ev_sign (x : T) (cl : List Bool) (i c : Nat) (s : RS) (b : Bool) (hx : x.length ≤ 1000000) (hi : i < x.length) (hxi : x[i]? = some c) (hcl : cl[i + 1]? = some b) (hcz : cl.length ≤ 1000001) (hc : c < 55296) (hb : RB i s) {σ : Store} (h : rA x cl s σ) :
    ∃ σ1, BF C k (namesOf "_law_read") (forT rdFor) (.int (i : Nat)) σ σ1 ∧ Ex C k (namesOf "_law_read") σ1 (forBody rdFor) fun σ' fl => fl = .nxt ∧ rA x cl (rstep b s c) σ' := by
  conv in (forT _) => whnf
  conv in (forBody _) => whnf
  conv in (namesOf _) => whnf
  obtain ⟨a1, a2, a3, a4, a5, a6, a7⟩ := h
  have hxl := zlt hx
  have itx : Itm (.str x) (.int (i : Nat)) (.str [c]) := itm_str hxi hxl
  obtain ⟨r, er⟩ : ∃ r, r = i + 1 := ⟨_, rfl⟩
  have itc : Itm (.list (cl.map .bool)) (.int (r : Nat)) (.bool b) := itm_list (by rw [List.getElem?_map, er, hcl]; rfl) (by omega)
  have q34 : Cmp C k .Eq (.str [c]) (.str [34]) (decide (c = 34)) := c_eqc hc (by decide)
  have q92 : Cmp C k .Eq (.str [c]) (.str [92]) (decide (c = 92)) := c_eqc hc (by decide)
  have q61 : Cmp C k .Eq (.str [c]) (.str [61]) (decide (c = 61)) := c_eqc hc (by decide)
  have q44 : Cmp C k .Eq (.str [c]) (.str [44]) (decide (c = 44)) := c_eqc hc (by decide)
  have z1 : s.vl.length + [c].length ≤ lim := by have := hb.vl.1; simp only [List.length_singleton, lim]; omega
  have z2 : s.nm.length + [c].length ≤ lim := by have := hb.nm.1; simp only [List.length_singleton, lim]; omega
  have bW : Bin C k .Add (dW s.ws) (.list [.tuple [.str s.nm, .str s.vl]]) (dW (s.ws ++ [(s.nm, some s.vl)])) := bi_W rfl (by have := hb.ws.1; simp only [lim]; omega)
  have bV : Bin C k .Add (dW s.ws) (.list [.tuple [.str s.nm, dO (if decide (s.st < 3) = true then none else some s.vl)]]) (dW (s.ws ++ [(s.nm, if decide (s.st < 3) = true then none else some s.vl)])) := bi_W rfl (by have := hb.ws.1; simp only [lim]; omega)
  have bL : Bin C k .Add (dL s.ls) (.list [dW (rclose s)]) (dL (s.ls ++ [rclose s])) := bi_L (by have := hb.ls.1; simp only [lim]; omega)
  have fin : ∀ σ' s', rstep b s c = s' → At σ' "text" (.frz (.str x)) → At σ' "closed" (.frz (.list (cl.map .bool))) → At σ' "lists" (.frz (dL s'.ls)) → At σ' "words" (.frz (dW s'.ws)) → At σ' "state" (.frz (.int s'.st)) → At σ' "name" (.frz (.str s'.nm)) → At σ' "value" (.frz (.str s'.vl)) →
      Fl.nxt = .nxt ∧ rA x cl (rstep b s c) σ' := fun σ' s' e b1 b2 b3 b4 b5 b6 b7 => ⟨rfl, by rw [e]; exact ⟨b1, b2, b3, b4, b5, b6, b7⟩⟩
  refine ⟨_, bf_name ?_, x_seq (s_asgn (sl := .frz (.str [c])) (es_ev ?_) ?_ ?_) (x_seq (s_asgn (sl := .frz (.bool (wsp c))) (es_ev ?_) ?_ ?_) (x_ifL (c := decide (s.st = 6)) ?_ (fun hq => ?_) fun hq => ?_))⟩
  any_goals walk_at "ev"
  · refine x_seq (s_tup2 (a := .frz (.str (s.vl ++ [c]))) (b := .frz (.int 5)) (es_ev ?_) (es_ev ?_) ?_ ?_ ?_ ?_ ?_ ?sw) (x_nil (fin _ ⟨s.ls, s.ws, 5, s.nm, s.vl ++ [c]⟩ (if_t hq) ?_ ?_ ?_ ?_ ?_ ?_ ?_))
    case sw => intro env h1 h2; right; cases env with | mk scope _ _ _ _ _ _ _ _ => cases scope; cases h1; cases h2; kernel_rfl
    all_goals walk_at "ev"
  have e2 : rstep b s c = rs2 b s c := if_f hq
  clear hq
  refine x_ifL (c := decide (s.st = 5) && (decide (c = 34) && true)) ?_ (fun hq => ?_) fun hq => ?_
  · walk_at "ev"
  · refine x_seq (s_tup2 (a := .frz (dW (s.ws ++ [(s.nm, some s.vl)]))) (b := .frz (.int 0)) (es_ev ?_) (es_ev ?_) ?_ ?_ ?_ ?_ ?_ ?sw) (x_nil (fin _ ⟨s.ls, s.ws ++ [(s.nm, some s.vl)], 0, s.nm, s.vl⟩ (e2.trans (if_t hq)) ?_ ?_ ?_ ?_ ?_ ?_ ?_))
    case sw => intro env h1 h2; right; cases env with | mk scope _ _ _ _ _ _ _ _ => cases scope; cases h1; cases h2; kernel_rfl
    all_goals walk_at "ev"
  replace e2 : rstep b s c = rs3 b s c := e2.trans (if_f hq)
  clear hq
  refine x_ifL (c := decide (s.st = 5)) ?_ (fun hq => ?_) fun hq => ?_
  · walk_at "ev"
  · replace e2 := e2.trans (if_t hq)
    cases h92 : decide (c = 92) with
    | true =>
      rw [h92] at q92
      rw [if_t h92] at e2
      refine x_seq (s_two (a := .str s.vl) (b := .int 6) (e_ifT ?_ ?_) ?_ ?_ ?_ ?_ (fun _ _ _ h => by cases h)) (x_nil (fin _ ⟨s.ls, s.ws, 6, s.nm, s.vl⟩ e2 ?_ ?_ ?_ ?_ ?_ ?_ ?_))
      all_goals walk_at "ev"
    | false =>
      rw [h92] at q92
      rw [if_f h92] at e2
      refine x_seq (s_two (a := .str (s.vl ++ [c])) (b := .int 5) (e_ifF ?_ ?_) ?_ ?_ ?_ ?_ (fun _ _ _ h => by cases h)) (x_nil (fin _ ⟨s.ls, s.ws, 5, s.nm, s.vl ++ [c]⟩ e2 ?_ ?_ ?_ ?_ ?_ ?_ ?_))
      all_goals walk_at "ev"
  replace e2 : rstep b s c = rs4 b s c := e2.trans (if_f hq)
  clear hq
  refine x_ifL (c := decide (s.st = 3) && (decide (c = 34) && (b && true))) ?_ (fun hq => ?_) fun hq => ?_
  · walk_at "ev"
  · refine x_seq (s_asgn (sl := .frz (.int 5)) (es_ev ?_) ?_ ?_) (x_nil (fin _ ⟨s.ls, s.ws, 5, s.nm, s.vl⟩ (e2.trans (if_t hq)) ?_ ?_ ?_ ?_ ?_ ?_ ?_))
    all_goals walk_at "ev"
  replace e2 : rstep b s c = rs5 s c := e2.trans (if_f hq)
  clear hq
  refine x_ifL (c := [3, 4].any (· == s.st) && (!wsp c && (![59, 44].contains c && true))) ?_ (fun hq => ?_) fun hq => ?_
  · walk_at "ev"
  · refine x_seq (s_tup2 (a := .frz (.str (s.vl ++ [c]))) (b := .frz (.int 4)) (es_ev ?_) (es_ev ?_) ?_ ?_ ?_ ?_ ?_ ?sw) (x_nil (fin _ ⟨s.ls, s.ws, 4, s.nm, s.vl ++ [c]⟩ (e2.trans (if_t hq)) ?_ ?_ ?_ ?_ ?_ ?_ ?_))
    case sw => intro env h1 h2; right; cases env with | mk scope _ _ _ _ _ _ _ _ => cases scope; cases h1; cases h2; kernel_rfl
    all_goals walk_at "ev"
  replace e2 : rstep b s c = rs6 s c := e2.trans (if_f hq)
  clear hq
  refine x_ifL (c := decide (s.st = 1) && (!wsp c && (![61, 59, 44].contains c && true))) ?_ (fun hq => ?_) fun hq => ?_
  · walk_at "ev"
  · refine x_seq (s_asgn (sl := .frz (.str (s.nm ++ [c]))) (es_ev ?_) ?_ ?_) (x_nil (fin _ ⟨s.ls, s.ws, s.st, s.nm ++ [c], s.vl⟩ (e2.trans (if_t hq)) ?_ ?_ ?_ ?_ ?_ ?_ ?_))
    all_goals walk_at "ev"
  replace e2 : rstep b s c = rs7 s c := e2.trans (if_f hq)
  clear hq
  refine x_ifL (c := [1, 2].any (· == s.st) && (decide (c = 61) && true)) ?_ (fun hq => ?_) fun hq => ?_
  · walk_at "ev"
  · refine x_seq (s_tup2 (a := .frz (.str [])) (b := .frz (.int 3)) (es_ev ?_) (es_ev ?_) ?_ ?_ ?_ ?_ ?_ ?sw) (x_nil (fin _ ⟨s.ls, s.ws, 3, s.nm, []⟩ (e2.trans (if_t hq)) ?_ ?_ ?_ ?_ ?_ ?_ ?_))
    case sw => intro env h1 h2; left; cases env with | mk scope _ _ _ _ _ _ _ _ => cases scope; cases h1; cases h2; kernel_rfl
    all_goals walk_at "ev"
  replace e2 : rstep b s c = rs8 s c := e2.trans (if_f hq)
  clear hq
  refine x_ifL (c := wsp c && (decide (s.st < 4) && true)) ?_ (fun hq => ?_) fun hq => ?_
  · walk_at "ev"
  · have ei : (if decide (s.st = 1) = true then D.int 2 else .int s.st) = .int (if decide (s.st = 1) = true then 2 else s.st) := by split <;> rfl
    refine x_seq (s_asgn (sl := .frz (.int (if decide (s.st = 1) = true then 2 else s.st))) (es_ev (ev_eq (e_if (c := decide (s.st = 1)) ?_ ?_ ?_) ei)) ?_ ?_) (x_nil (fin _ ⟨s.ls, s.ws, if decide (s.st = 1) = true then 2 else s.st, s.nm, s.vl⟩ (e2.trans (if_t hq)) ?_ ?_ ?_ ?_ ?_ ?_ ?_))
    all_goals walk_at "ev"
  replace e2 : rstep b s c = rs9 s c := e2.trans (if_f hq)
  clear hq
  refine x_ifC (c := decide (0 < s.st)) (J := fun σ' => At σ' "text" (.frz (.str x)) ∧ At σ' "closed" (.frz (.list (cl.map .bool))) ∧ At σ' "lists" (.frz (dL s.ls)) ∧ At σ' "words" (.frz (dW (rclose s))) ∧ At σ' "name" (.frz (.str s.nm)) ∧ At σ' "value" (.frz (.str s.vl)) ∧ At σ' "sign" (.frz (.str [c])) ∧ At σ' "white" (.frz (.bool (wsp c)))) ?_ (fun hq => ?_) (fun hq => ?_) fun σ' ⟨k1, k2, k3, k4, k6, k7, k8, k9⟩ => ?_
  · walk_at "ev"
  · have er : s.ws ++ [(s.nm, if decide (s.st < 3) = true then none else some s.vl)] = rclose s := (if_t hq).symm
    rw [er] at bV
    have eo : (if decide (s.st < 3) = true then D.none else .str s.vl) = dO (if decide (s.st < 3) = true then none else some s.vl) := by split <;> rfl
    refine x_seq (s_asgn (sl := .frz (dW (rclose s))) (es_ev (e_bin ?_ (e_list (l_cons (e_tuple (l_cons ?_ (l_cons (ev_eq (e_if (c := decide (s.st < 3)) ?_ ?_ ?_) eo) l_nil ?_) ?_) ?_) l_nil ?_) ?_) bV)) ?_ ?_) (x_nil ⟨rfl, ?_, ?_, ?_, pt_hd, ?_, ?_, ?_, ?_⟩)
    all_goals walk_at "ev"
  · have er : rclose s = s.ws := if_f hq
    rw [er]
    exact x_nil ⟨rfl, by walk_at "ev", by walk_at "ev", by walk_at "ev", by walk_at "ev", by walk_at "ev", by walk_at "ev", by walk_at "ev", by walk_at "ev"⟩
  refine x_seq (s_asgn (sl := .frz (.int 0)) (es_ev ?_) ?_ ?_) (x_ifL (c := decide (c = 44)) ?_ (fun hq => ?_) fun hq => ?_)
  any_goals walk_at "ev"
  · refine x_seq (s_tup2 (a := .frz (dL (s.ls ++ [rclose s]))) (b := .frz (.list [])) (es_ev ?_) (es_ev ?_) ?_ ?_ ?_ ?_ ?_ ?sw) (x_nil (fin _ ⟨s.ls ++ [rclose s], [], 0, s.nm, s.vl⟩ (e2.trans (if_t hq)) ?_ ?_ ?_ (At.eq (a := .frz (.list [])) ?_ rfl) ?_ ?_ ?_))
    case sw => intro env h1 h2; right; cases env with | mk scope _ _ _ _ _ _ _ _ => cases scope; cases h1; cases h2; kernel_rfl
    all_goals walk_at "ev"
  replace e2 : rstep b s c = rs10 s c := e2.trans (if_f hq)
  clear hq
  refine x_ifL (c := !wsp c && (![61, 59].contains c && true)) ?_ (fun hq => ?_) fun hq => ?_
  · walk_at "ev"
  · refine x_seq (s_tup2 (a := .frz (.str [c])) (b := .frz (.int 1)) (es_ev ?_) (es_ev ?_) ?_ ?_ ?_ ?_ ?_ ?sw) (x_nil (fin _ ⟨s.ls, rclose s, 1, [c], s.vl⟩ (e2.trans (if_t hq)) ?_ ?_ ?_ ?_ ?_ ?_ ?_))
    case sw => intro env h1 h2; right; cases env with | mk scope _ _ _ _ _ _ _ _ => cases scope; cases h1; cases h2; kernel_rfl
    all_goals walk_at "ev"
  · refine x_nil (fin _ ⟨s.ls, rclose s, 0, s.nm, s.vl⟩ (e2.trans (if_f hq)) ?_ ?_ ?_ ?_ ?_ ?_ ?_)
    all_goals walk_at "ev"
theorem words_ne {l : List Pair} (h : ∀ p ∈ l, okP p = true) : D.eqb (dW l) (.list []) = some l.isEmpty := by
  have := eq_nilr (xs := l.map dP) (toPy_dW (n := 5) h)
  rw [List.isEmpty_map] at this; exact this
theorem c_full {ls : List (List Pair)} (h : ∀ l ∈ ls, ∀ p ∈ l, okP p = true) {l : List Pair} (hl : l ∈ ls) : Cmp C k .NotEq (dW l) (.list []) (!l.isEmpty) := c_ne (words_ne (h l hl))
theorem ev_read (M : Bs C) (x : T) (cl : List Bool) (hx : x.length ≤ 1000000) (hcl : cl.length = x.length + 1) (hc : ∀ c ∈ x, c < 55296) :
    Ex C k (namesOf "_law_read") [("text", .frz (.str x)), ("closed", .frz (.list (cl.map .bool)))] (bodyOf "_law_read") fun _ fl => fl = .ret (dL (rres (rfold x cl x.length))) := by
  have sg := fun i c s b hi hxi h2 hc hb σ h => ev_sign (C := C) (k := k) x cl i c s b hx hi hxi h2 (by omega) hc hb (σ := σ) h
  conv at sg in (forT _) => whnf
  conv at sg in (forBody _) => whnf
  conv at sg in (namesOf _) => whnf
  conv in (bodyOf _) => whnf
  conv in (namesOf _) => whnf
  have h0 := zlt hx
  have hit := one_iter hx
  have r1 : CallG C k (.type "range") [.int (x.length : Nat)] (.rng 0 (x.length : Nat) 1) := p_range1
  have hb := rb_fold (x := x) (cl := cl) hc (Nat.le_refl _)
  generalize hz : rfold x cl x.length = z at hb
  have hcz := hb.close
  have hlp : ∀ l ∈ z.ls ++ [rclose z], ∀ p ∈ l, okP p = true := fun l hl => by
    rcases List.mem_append.mp hl with hl | hl
    · exact hb.ls.2 l hl
    · rw [List.mem_singleton.mp hl]; exact hcz.2
  have bV : Bin C k .Add (dW z.ws) (.list [.tuple [.str z.nm, dO (if decide (z.st < 3) = true then none else some z.vl)]]) (dW (z.ws ++ [(z.nm, if decide (z.st < 3) = true then none else some z.vl)])) := bi_W rfl (by have := hb.ws.1; simp only [lim]; omega)
  have bL : Bin C k .Add (dL z.ls) (.list [dW (rclose z)]) (dL (z.ls ++ [rclose z])) := bi_L (by have := hb.ls.1; simp only [lim]; omega)
  have z3 : (z.ls ++ [rclose z]).length ≤ lim := by rw [List.length_append, List.length_singleton]; have := hb.ls.1; simp only [lim]; omega
  have hL : Itb (dL (z.ls ++ [rclose z])) ((z.ls ++ [rclose z]).map dW) := it_list (len_map z3)
  refine x_seq (s_tup5 (a := .frz (.list [])) (b := .frz (.list [])) (c := .frz (.int 0)) (d := .frz (.str [])) (e := .frz (.str [])) (es_ev ?_) (es_ev ?_) (es_ev ?_) (es_ev ?_) (es_ev ?_) ?_ ?_ ?_ ?_ ?_ (nod5 ?_ ?_ ?_ ?_ ?nd) ?st ?sw)
    (x_cons (s_rng (W := fun i σ => rA x cl (rfold x cl i) σ) (gi := fun i => .int (i : Nat)) ?_ hit ?_ ⟨?_, ?_, At.eq (a := .frz (.list [])) ?_ rfl, At.eq (a := .frz (.list [])) ?_ rfl, At.eq (a := .frz (.int 0)) ?_ rfl, At.eq (a := .frz (.str [])) ?_ rfl, At.eq (a := .frz (.str [])) ?_ rfl⟩ fun i hi σ h => ?_) (fun σ ⟨_, hA⟩ => ?_) fun σ' d h => by cases h.1)
  case sw => intro env h1 h2; left; cases env with | mk scope _ _ _ _ _ _ _ _ => cases scope; cases h1; cases h2; kernel_rfl
  case nd => decide +kernel
  case st => intro t ht; simp only [List.mem_cons, List.not_mem_nil, or_false] at ht; rcases ht with rfl | rfl | rfl | rfl | rfl <;> kernel_rfl
  any_goals walk_at "ev"
  · have h2 : i + 1 < cl.length := by omega
    have := sg i x[i] (rfold x cl i) cl[i + 1] hi (List.getElem?_eq_getElem hi) (List.getElem?_eq_getElem h2) (hc _ (List.getElem_mem _)) (rb_fold hc (Nat.le_of_lt hi)) σ h
    have es : rstep cl[i + 1] (rfold x cl i) x[i] = rfold x cl (i + 1) := by
      show _ = rstep (cl.getD (i + 1) false) (rfold x cl i) (x.getD i 0)
      rw [List.getD_eq_getElem?_getD, List.getD_eq_getElem?_getD, List.getElem?_eq_getElem hi, List.getElem?_eq_getElem h2]; rfl
    rw [es] at this
    exact this
  · rw [hz] at hA
    obtain ⟨a1, a2, a3, a4, a5, a6, a7⟩ := hA
    refine x_ifC (c := decide (0 < z.st)) (J := fun σ' => At σ' "lists" (.frz (dL z.ls)) ∧ At σ' "words" (.frz (dW (rclose z)))) ?_ (fun hq => ?_) (fun hq => ?_) fun σ' ⟨k1, k2⟩ => ?_
    · walk_at "ev"
    · have er : z.ws ++ [(z.nm, if decide (z.st < 3) = true then none else some z.vl)] = rclose z := (if_t hq).symm
      rw [er] at bV
      have eo : (if decide (z.st < 3) = true then D.none else .str z.vl) = dO (if decide (z.st < 3) = true then none else some z.vl) := by split <;> rfl
      refine x_seq (s_asgn (sl := .frz (dW (rclose z))) (es_ev (e_bin ?_ (e_list (l_cons (e_tuple (l_cons ?_ (l_cons (ev_eq (e_if (c := decide (z.st < 3)) ?_ ?_ ?_) eo) l_nil ?_) ?_) ?_) l_nil ?_) ?_) bV)) ?_ ?_) (x_nil ⟨rfl, ?_, pt_hd⟩)
      all_goals walk_at "ev"
    · have er : rclose z = z.ws := if_f hq
      rw [er]
      exact x_nil ⟨rfl, by walk_at "ev", by walk_at "ev"⟩
    · refine x_ret (d := dL (full (z.ls ++ [rclose z]))) ?_ rfl
      show Ev _ _ _ _ _ (.list (((z.ls ++ [rclose z]).filter fun x => !x.isEmpty).map dW))
      refine compF (gi := dW) (G := dW) (b := fun l => !l.isEmpty) (d1 := dL (z.ls ++ [rclose z])) ?_ hL (fun _ _ => bnd1 ?_ ?_) (fun l hl => ts_one (t_cmp ?_ ?_ (c_full hlp hl) ?_)) (fun l hl _ => ?_) z3 ?_ ?_ ?_
      all_goals walk_at "ev"
end
section
open PySem PySem.W PyProof.Rows
set_option maxRecDepth 100000
set_option maxHeartbeats 4000000
variable {C : Mod} {k : Nat}
noncomputable def aB (v : T) : Bool := !decide (v = []) && ((v.filter fun c => ![97, 66].contains c).isEmpty && true)
noncomputable def wrv (v : T) : T := if aB v = true then [61] ++ v else [61, 34] ++ v.flatMap (markS [34, 92]) ++ [34]
noncomputable def wr (p : Pair) : T := match p.2 with
  | none => p.1
  | some v => p.1 ++ wrv v
theorem ev_written (nm : T) (o : Option T) (h1 : nm.length ≤ 1000) (h2 : ∀ v, o = some v → v.length ≤ 1000 ∧ okT v = true) : Ex C k (namesOf "_law_written") [("name", .frz (.str nm)), ("value", .frz (dO o))] (bodyOf "_law_written") fun _ fl => fl = .ret (.str (wr (nm, o))) := by
  conv in (bodyOf _) => whnf
  conv in (namesOf _) => whnf
  cases o with
  | none =>
    show Ex _ _ _ [_, (_, .frz .none)] _ _
    refine x_ifR (c := true) ?_ rfl (d := .str nm) (x_ret (d := .str nm) ?_ ⟨rfl, rfl⟩)
    all_goals walk_at "ev"
  | some v =>
    obtain ⟨h2, h3⟩ := h2 v rfl
    show Ex _ _ _ [_, (_, .frz (.str v))] _ _
    have zv : v.length ≤ lim := by simp only [lim]; omega
    have q1 : Cmp C k .NotEq (.str v) (.str []) (!decide (v = [])) := c_ne (eq_str h3 (by decide))
    have q2 : Cmp C k .Eq (.list ((v.filter fun c => ![97, 66].contains c).map fun c => D.str [c])) (.list []) (v.filter fun c => ![97, 66].contains c).isEmpty := by
      have := eq_nilr (xs := (v.filter fun c => ![97, 66].contains c).map fun c => D.str [c]) (toPy_list (n := 7) fun d hd => by
        obtain ⟨c, hc, rfl⟩ := List.mem_map.mp hd
        have hc := (List.mem_filter.mp hc).1
        unfold okT at h3
        have := List.all_eq_true.mp h3 c hc
        rw [toPy_str (by unfold okT; simpa using this)]; rfl)
      rw [List.isEmpty_map] at this
      exact c_eq this
    have hl := flatMap_len (markS_len [34, 92]) v
    have e : (v.map fun x => if [34, 92].contains x = true then [92] ++ [x] else [x]).flatten = v.flatMap (markS [34, 92]) := List.flatMap_def.symm
    have l0 : (v.flatMap (markS [34, 92])).length ≤ lim := by simp only [lim]; omega
    refine x_ifN (c := false) ?_ rfl (x_cons (K' := fun σ' fl => fl = .ret (.str (wr (nm, some v))) ∨ (fl = .nxt ∧ aB v = false ∧ At σ' "name" (.frz (.str nm)) ∧ At σ' "value" (.frz (.str v)))) ?_ (fun σ' h => ?_) fun σ' d h => ?_)
    · walk_at "ev"
    · have b1 : Bin C k .Add (.str nm) (.str [61]) (.str (nm ++ [61])) := bi_str (by simp only [List.length_singleton, lim]; omega)
      have b2 : Bin C k .Add (.str (nm ++ [61])) (.str v) (.str (nm ++ [61] ++ v)) := bi_str (by simp only [List.length_append, List.length_singleton, lim]; omega)
      refine s_ifE (c := aB v) (t_bo (a_and (t_cmp ?_ ?_ q1 ?_) (a_and (t_cmp (compF (l := v) (gi := fun c => .str [c]) (G := fun c => .str [c]) (b := fun c => ![97, 66].contains c) (d1 := .str v) ?_ (it_str zv) (fun _ _ => bnd1 ?_ ?_) (fun c hc => ts_one (t_cmp ?_ ?_ c_ni ?_)) (fun c hc _ => ?_) zv ?_ ?_ ?_) ?_ q2 ?_) a_nilA))) (fun hb => x_ret (d := .str (nm ++ [61] ++ v)) (e_bin (e_bin ?_ ?_ b1) ?_ b2) (.inl ?_)) fun hb => x_nil (.inr ⟨rfl, hb, ?_, ?_⟩)
      any_goals walk_at "ev"
      rw [show wr (nm, some v) = nm ++ wrv v from rfl, wrv, if_t hb, List.append_assoc]
    · rcases h with h | ⟨_, hb, a1, a2⟩
      · cases h
      have b1 : Bin C k .Add (.str nm) (.str [61, 34]) (.str (nm ++ [61, 34])) := bi_str (by simp only [List.length_cons, List.length_nil, lim]; omega)
      have b2 : Bin C k .Add (.str (nm ++ [61, 34])) (.str (v.flatMap (markS [34, 92]))) (.str (nm ++ [61, 34] ++ v.flatMap (markS [34, 92]))) := bi_str (by simp only [List.length_append, List.length_cons, List.length_nil, lim]; omega)
      have b3 : Bin C k .Add (.str (nm ++ [61, 34] ++ v.flatMap (markS [34, 92]))) (.str [34]) (.str (nm ++ [61, 34] ++ v.flatMap (markS [34, 92]) ++ [34])) := bi_str (by simp only [List.length_append, List.length_cons, List.length_nil, lim]; omega)
      have l1 : [92].length + [0].length ≤ lim := by decide
      have bm : ∀ c : Nat, Bin C k .Add (.str [92]) (.str [c]) (.str ([92] ++ [c])) := fun c => bi_str (by simp only [List.length_singleton, lim]; omega)
      refine x_ret (d := .str (nm ++ [61, 34] ++ v.flatMap (markS [34, 92]) ++ [34])) (e_bin (e_bin (e_bin ?_ ?_ b1) ?_ b2) ?_ b3) ?_
      any_goals walk_at "ev"
      · exact (by decide : 2 ≤ lim)
      · rw [show wr (nm, some v) = nm ++ wrv v from rfl, wrv, if_f hb, ← List.append_assoc, ← List.append_assoc]
    · rcases h with h | ⟨h, _⟩
      · exact h
      · cases h
end
section
open PySem PySem.W PyProof.Rows
set_option maxRecDepth 100000
set_option maxHeartbeats 4000000
variable {C : Mod} {k : Nat}
inductive spW (R : Nat) (F : List Pair × List (List Pair)) (n : Nat) (σ : Store) : Prop
  | mk (x : T) (ps : List Pair) (rs : List (List Pair)) (_ : x.length = n) (_ : ps.length + n ≤ 1000001) (_ : rs.length + n ≤ R) (_ : n ≤ 1000000) (_ : spl (n + 1) x ps rs = F) (_ : At σ "text" (.frz (.str x))) (_ : At σ "pairs" (.own (ps.map dP))) (_ : At σ "result" (.own (rs.map dW)))
noncomputable def spF (R : Nat) (F : List Pair × List (List Pair)) (σ : Store) : Prop := F.1.length ≤ 1000001 ∧ F.2.length ≤ R ∧ At σ "pairs" (.own (F.1.map dP)) ∧ At σ "result" (.own (F.2.map dW))
inductive spI (xs : List T) (i : Nat) (σ : Store) : Prop
  | mk (rs : List (List Pair)) (_ : readAll (xs.drop i) rs = split xs) (_ : rs.length ≤ 1000001 * i) (_ : At σ "result" (.own (rs.map dW)))
theorem spl_step {n m : Nat} {x z : T} {ps ps' : List Pair} {rs rs' : List (List Pair)} {F : List Pair × List (List Pair)} (hF : spl (n + 1) x ps rs = F) (hx : x ≠ []) (h : spl (n + 1) x ps rs = spl n z ps' rs') (h1 : z.length < n) (h2 : z.length < m) : spl m z ps' rs' = F :=
  (spl_fuel m n z ps' rs' h2 h1).trans (h.symm.trans hF)
theorem tr_quo {u : T} : Tru C (findQuo u) (quoR u).isSome := by
  rcases quo_cases u with ⟨h1, h2⟩ | ⟨b, c, e, _, _, _, h2, h1⟩ <;> rw [h1, h2]
  · exact tr_none
  · exact tr_mat
theorem tr_val {u : T} : Tru C (findVal u) (valR u).isSome := by
  rcases val_cases u with ⟨h1, h2⟩ | ⟨b, e, _, _, _, h2, h1⟩ <;> rw [h1, h2]
  · exact tr_none
  · exact tr_mat
theorem ev_split {P : Pats} (M : ModF C P) (hu : ∀ (x : T) (a b : Nat) (sp : List Int), x.length ≤ 1000000 → FnG C (k + 2) "unmatched" [.mat x ((a : Int) :: (b : Int) :: sp)] (.str (x.take a ++ x.drop b))) (xs : List T) (hz : xs.length ≤ 3) (hx : ∀ x ∈ xs, x.length ≤ 1000000) :
    Ex C (k + 2) (namesOf "split_header_words") [("header_values", .frz (.list (xs.map .str)))] (bodyOf "split_header_words") fun _ fl => fl = .ret (dL (split xs)) := by
  have hsub : ∀ {ρ : Ct} {x : T}, ρ "value" = some (.str x) → x.length ≤ 1000000 → Ev C (k + 2) (namesOf "split_header_words") ρ (subOf "split_header_words") (.str (unesc x)) := fun h1 h2 => e_subS M h1 h2
  conv at hsub in (subOf _) => whnf
  conv at hsub in (namesOf _) => whnf
  conv in (bodyOf _) => whnf
  conv in (namesOf _) => whnf
  have Mb := M.bs
  have gT := M.gT
  have gQ := M.gQ
  have gV := M.gV
  have gW := M.gW
  have zx : xs.length ≤ lim := Nat.le_trans hz (by decide)
  refine x_seq (s_assert (t_not (b := false) (t_val (e_isM Mb (xs := xs.map .str) ?_ ?_ ?_) tr_bool ?_))) (x_seq (s_asgn (sl := .own []) (es_list l_nil (Nat.zero_le _)) ?_ ?_) (x_cons (s_forM (W := spI xs) (l := xs) (gi := .str) ?_ (it_list (len_map zx)) ?_ ⟨[], rfl, Nat.zero_le _, pt_hd⟩ ?_) (fun σ ⟨_, rs, hr, hl, f⟩ => x_frzo f (x_ret (d := .list (rs.map dW)) ?_ (by rw [List.drop_length] at hr; rw [← hr]; rfl))) fun σ' d h => by cases h.1))
  any_goals walk_at "ev"
  intro i x hxi σ ⟨rs, hr, hrl, f⟩
  have hi := (List.getElem?_eq_some_iff.mp hxi).1
  have hxm := hx x (List.mem_of_getElem? hxi)
  rw [List.drop_eq_getElem_cons hi, (List.getElem?_eq_some_iff.mp hxi).2] at hr
  obtain ⟨F, hF⟩ : ∃ F, spl (x.length + 1) x [] rs = F := ⟨_, rfl⟩
  replace hr : readAll (xs.drop (i + 1)) (closeL (spl (x.length + 1) x [] rs)) = split xs := hr
  rw [hF] at hr
  have hR : rs.length + x.length ≤ 4000004 := by omega
  obtain ⟨R, eR⟩ : ∃ R, R = rs.length + x.length := ⟨_, rfl⟩
  refine ⟨_, bf_name ?_, x_seq (s_asgn (sl := .frz (.str x)) (es_ev ?_) ?_ ?_) (x_seq (s_asgn (sl := .own []) (es_list l_nil (Nat.zero_le _)) ?_ ?_) (x_cons (s_while (W := spW R F) (F := spF R F) (n := x.length) (fun n σ hW => ?_) ⟨x, [], rs, rfl, by simp only [List.length_nil]; omega, by omega, hxm, hF, ?_, pt_hd, ?_⟩) (fun σ hσ => ?_) fun σ' d h => by cases h.1))⟩
  any_goals walk_at "ev"
  · obtain ⟨y, ps, rs', rfl, hps, hrs, hn, hs, g1, g2, g3⟩ := hW
    have hyl := zlt hn
    by_cases hy0 : y = []
    · subst hy0
      rw [spl_nil] at hs
      subst hs
      refine .inl ⟨t_eq (b := !([] : T).isEmpty) ?_ rfl, hps, hrs, g2, g3⟩
      walk_at "ev"
    · have hne : (!y.isEmpty) = true := by cases y with | nil => exact absurd rfl hy0 | cons c l => rfl
      refine .inr ⟨t_eq (b := !y.isEmpty) ?_ hne, ?_⟩
      · walk_at "ev"
      have hpos : 0 < y.length := by cases y with | nil => exact absurd rfl hy0 | cons c l => exact Nat.succ_pos _
      have hpl : (ps.map dP).length ≤ lim := len_map (by simp only [lim]; omega)
      have hrl : (rs'.map dW).length ≤ lim := len_map (by simp only [lim]; omega)
      have fin : ∀ σ' z ps' rs2, spl (y.length + 1) y ps rs' = spl y.length z ps' rs2 → z.length < y.length → ps'.length + z.length ≤ 1000001 → rs2.length + z.length ≤ R → At σ' "text" (.frz (.str z)) → At σ' "pairs" (.own (ps'.map dP)) → At σ' "result" (.own (rs2.map dW)) → Fl.nxt = .nxt ∧ ∃ m, m < y.length ∧ spW R F m σ' := fun σ' z ps' rs2 e hl h1 h2 k1 k2 k3 =>
        ⟨rfl, z.length, hl, z, ps', rs2, rfl, h1, h2, Nat.le_trans (Nat.le_of_lt hl) hn, spl_step hs hy0 e hl (Nat.lt_succ_self _), k1, k2, k3⟩
      have mT : MethG C (k + 2) (.pat P.t) "search" [.str y] (findTok y) := mg_tok M.pT hyl hy0
      refine x_seq (s_asgn (sl := .frz (findTok y)) (es_ev ?_) ?_ ?_) ?_
      any_goals walk_at "ev"
      rcases tok_cases y hy0 with ⟨ht, hf⟩ | ⟨b, e, hbe, hey, hf, ht⟩
      · rw [hf]
        refine x_ifL (c := false) ?_ (fun q => by cases q) fun _ => ?_
        · walk_at "ev"
        have hdw : (y.dropWhile sp).length ≤ y.length := (List.dropWhile_sublist sp).length_le
        have hds := Nat.le_trans hdw hyl
        have ml : MethG C (k + 2) (.str y) "lstrip" [] (.str (y.dropWhile sp)) := m_lstrip hyl
        refine x_ifL (c := (y.dropWhile sp).head? == some 44) ?_ (fun hc => ?_) fun hc => ?_
        · walk_at "ev"
        · have es : spl (y.length + 1) y ps rs' = spl y.length ((y.dropWhile sp).drop 1) [] (if ps.isEmpty then rs' else rs' ++ [ps]) := by
            conv => lhs; unfold spl
            rw [if_neg hy0, ht]
            exact if_pos (beq_iff_eq.mp hc)
          have hl : ((y.dropWhile sp).drop 1).length < y.length := by rw [List.length_drop]; omega
          refine x_seq (s_asgn (sl := .frz (.str ((y.dropWhile sp).drop 1))) (es_ev ?_) ?_ ?_) (x_frzo (pt_tl (by kernel_rfl) (pt_tl (by kernel_rfl) g2)) (x_ifC (c := !(ps.map dP).isEmpty) (J := fun σ' => At σ' "text" (.frz (.str ((y.dropWhile sp).drop 1))) ∧ At σ' "result" (.own ((if ps.isEmpty then rs' else rs' ++ [ps]).map dW))) ?_ (fun hq => x_seq (s_app (xs := rs'.map dW) (d := .list (ps.map dP)) ?_ ?_ ?_ ?_ hrl ?_) (x_nil ⟨rfl, ?_, pt_hd.trans (by
            rw [if_neg (by intro q; rw [List.isEmpty_map, q] at hq; cases hq), List.map_append]; rfl)⟩)) (fun hq => x_nil ⟨rfl, ?_, (pt_tl (by kernel_rfl) (pt_tl (by kernel_rfl) (pt_tl (by kernel_rfl) g3))).trans (by rw [if_pos (by rw [List.isEmpty_map] at hq; simpa using hq)])⟩) fun σ' ⟨k1, k2⟩ => x_seq (s_asgn (sl := .own []) (es_list l_nil (Nat.zero_le _)) ?_ ?_) (x_nil (fin _ _ _ _ es hl (by simp only [List.length_nil]; omega) ?_ ?_ pt_hd ?_))))
          all_goals walk_at "ev"
          split
          · omega
          · rw [List.length_append, List.length_singleton]; omega
        · have hj := junk_pos hy0 ht (by intro q; rw [q] at hc; simp at hc)
          have es : spl (y.length + 1) y ps rs' = spl y.length (y.drop (span junkP y)) ps rs' := by
            conv => lhs; unfold spl
            rw [if_neg hy0, ht]
            exact if_neg (by intro q; rw [q] at hc; simp at hc)
          have hl : (y.drop (span junkP y)).length < y.length := by rw [List.length_drop]; omega
          have mW : MethG C (k + 2) (.pat P.w) "subn" [.str [], .str y] (.tuple [.str (y.drop (span junkP y)), .int 1]) := mg_subn M.pW hn hj
          refine x_seq (s_two (a := .str (y.drop (span junkP y))) (b := .int 1) ?_ ?_ ?_ ?_ ?_ (fun _ _ _ h => by cases h)) (x_seq (s_assert (t_eq (b := decide ((0 : Int) < 1)) ?_ (by decide))) (x_seq (s_asgn (sl := .frz (.str (y.drop (span junkP y)))) (es_ev ?_) ?_ ?_) (x_nil (fin _ _ _ _ es hl (by omega) (by omega) pt_hd ?_ ?_))))
          all_goals walk_at "ev"
      · rw [hf]
        refine x_ifL (c := true) ?_ (fun _ => ?_) fun q => by cases q
        · walk_at "ev"
        obtain ⟨u, eu⟩ : ∃ u, u = y.drop e := ⟨_, rfl⟩
        obtain ⟨nm, en⟩ : ∃ nm, nm = (y.take e).drop b := ⟨_, rfl⟩
        rw [← eu, ← en] at ht
        have hul : u.length < y.length := by rw [eu, List.length_drop]; omega
        have hu1 : u.length ≤ 1000000 := Nat.le_trans (Nat.le_of_lt hul) hn
        have hu2 := zlt hu1
        have hun : FnG C (k + 2) "unmatched" [.mat y [0, (e : Int), (b : Int), (e : Int)]] (.str u) := eu ▸ hu y 0 e [(b : Int), (e : Int)] hn
        have mg : MethG C (k + 2) (.mat y [0, (e : Int), (b : Int), (e : Int)]) "group" [.int 1] (.str nm) := en ▸ m_group hyl
        have mQ : MethG C (k + 2) (.pat P.q) "search" [.str u] (findQuo u) := mg_quo M.pQ hu1
        have mV : MethG C (k + 2) (.pat P.v) "search" [.str u] (findVal u) := mg_val M.pV hu2
        have tQ := tr_quo (C := C) (u := u)
        have tV := tr_val (C := C) (u := u)
        have es : spl (y.length + 1) y ps rs' = spl y.length (afterTok u).2 (ps ++ [(nm, (afterTok u).1)]) rs' := by
          conv => lhs; unfold spl
          rw [if_neg hy0, ht]
        have hal := after_len u
        refine x_seq (s_asgn (sl := .frz (.str u)) (es_ev ?_) ?_ ?_) (x_seq (s_asgn (sl := .frz (.str nm)) (es_ev ?_) ?_ ?_) (x_seq (s_asgn (sl := .frz (findQuo u)) (es_ev ?_) ?_ ?_)
          (x_ifC (c := (quoR u).isSome) (J := fun σ' => At σ' "text" (.frz (.str (afterTok u).2)) ∧ At σ' "value" (.frz (dO (afterTok u).1)) ∧ At σ' "name" (.frz (.str nm)) ∧ At σ' "pairs" (.own (ps.map dP)) ∧ At σ' "result" (.own (rs'.map dW))) ?_ (fun hq => ?_) (fun hq => ?_) fun σ' ⟨k1, k2, k3, k4, k5⟩ =>
            x_seq (s_app (xs := ps.map dP) (d := .tuple [.str nm, dO (afterTok u).1]) ?_ ?_ ?_ ?_ hpl ?_) (x_nil (fin _ _ _ _ es (by omega) (by rw [List.length_append, List.length_singleton]; omega) (by omega) ?_ (pt_hd.trans (by rw [List.map_append]; rfl)) ?_)))))
        any_goals walk_at "ev"
        · rcases quo_cases u with ⟨h1, _⟩ | ⟨b2, c2, e2, q1, q2, q3, hqf, hqr⟩
          · rw [h1] at hq; cases hq
          · have ha : afterTok u = (some (unesc ((u.take c2).drop b2)), u.drop e2) := by unfold afterTok; rw [hqr]
            rw [ha, hqf]
            have hun2 : FnG C (k + 2) "unmatched" [.mat u [0, (e2 : Int), (b2 : Int), (c2 : Int)]] (.str (u.drop e2)) := hu u 0 e2 [(b2 : Int), (c2 : Int)] hu1
            have mg2 : MethG C (k + 2) (.mat u [0, (e2 : Int), (b2 : Int), (c2 : Int)]) "group" [.int 1] (.str ((u.take c2).drop b2)) := m_group hu2
            have hcl := cut_len (b := b2) (e := c2) hu1
            refine x_seq (s_asgn (sl := .frz (.str (u.drop e2))) (es_ev ?_) ?_ ?_) (x_seq (s_asgn (sl := .frz (.str ((u.take c2).drop b2))) (es_ev ?_) ?_ ?_) (x_seq (s_asgn (sl := .frz (.str (unesc ((u.take c2).drop b2)))) (es_ev (hsub (fz_of pt_hd) hcl)) ?_ ?_) (x_nil ⟨rfl, ?_, pt_hd, ?_, ?_, ?_⟩)))
            all_goals walk_at "ev"
        · refine x_seq (s_asgn (sl := .frz (findVal u)) (es_ev ?_) ?_ ?_) (x_ifL (c := (valR u).isSome) ?_ (fun hv => ?_) fun hv => ?_)
          any_goals walk_at "ev"
          · rcases val_cases u with ⟨h1, _⟩ | ⟨b2, e2, q1, q2, q3, hvf, hvr⟩
            · rw [h1] at hv; cases hv
            · have hqn : quoR u = none := by cases h : quoR u with | none => rfl | some _ => rw [h] at hq; cases hq
              have ha : afterTok u = (some (rst ((u.take e2).drop b2)), u.drop e2) := by unfold afterTok; rw [hqn]; simp only; rw [hvr]
              rw [ha, hvf]
              have hun2 : FnG C (k + 2) "unmatched" [.mat u [0, (e2 : Int), (b2 : Int), (e2 : Int)]] (.str (u.drop e2)) := hu u 0 e2 [(b2 : Int), (e2 : Int)] hu1
              have mg2 : MethG C (k + 2) (.mat u [0, (e2 : Int), (b2 : Int), (e2 : Int)]) "group" [.int 1] (.str ((u.take e2).drop b2)) := m_group hu2
              have mr : MethG C (k + 2) (.str ((u.take e2).drop b2)) "rstrip" [] (.str (rst ((u.take e2).drop b2))) := m_rstrip (zlt (cut_len hu1))
              refine x_seq (s_asgn (sl := .frz (.str (u.drop e2))) (es_ev ?_) ?_ ?_) (x_seq (s_asgn (sl := .frz (.str ((u.take e2).drop b2))) (es_ev ?_) ?_ ?_) (x_seq (s_asgn (sl := .frz (.str (rst ((u.take e2).drop b2)))) (es_ev ?_) ?_ ?_) (x_nil ⟨rfl, ?_, pt_hd, ?_, ?_, ?_⟩)))
              all_goals walk_at "ev"
          · have hqn : quoR u = none := by cases h : quoR u with | none => rfl | some _ => rw [h] at hq; cases hq
            have hvn : valR u = none := by cases h : valR u with | none => rfl | some _ => rw [h] at hv; cases hv
            have ha : afterTok u = (none, u) := by unfold afterTok; rw [hqn]; simp only; rw [hvn]
            rw [ha]
            refine x_seq (s_asgn (sl := .frz .none) (es_ev ?_) ?_ ?_) (x_nil ⟨rfl, ?_, pt_hd, ?_, ?_, ?_⟩)
            all_goals walk_at "ev"
  · obtain ⟨_, h1, h2, f1, f2⟩ := hσ
    have z1 : F.1.length ≤ lim := Nat.le_trans h1 (by decide)
    have z2 : (F.2.map dW).length ≤ lim := len_map (by simp only [lim]; omega)
    have hfin : ∀ σ', At σ' "result" (.own ((closeL F).map dW)) → Fl.nxt = .nxt ∧ spI xs (i + 1) σ' := fun σ' g => by
      refine ⟨rfl, closeL F, hr, ?_, g⟩
      unfold closeL
      split
      · omega
      · rw [List.length_append, List.length_singleton]; omega
    refine x_frzo f1 (x_ifL (c := !(F.1.map dP).isEmpty) ?_ (fun hc => x_seq (s_app (xs := F.2.map dW) (d := .list (F.1.map dP)) ?_ ?_ ?_ ?_ z2 ?_) (x_nil (hfin _ (pt_hd.trans (by
      unfold closeL
      rw [if_neg (by intro q; rw [List.isEmpty_map, q] at hc; cases hc), List.map_append]; rfl))))) fun hc => x_nil (hfin _ ((pt_tl (by kernel_rfl) f2).trans (by
      unfold closeL
      rw [if_pos (by rw [List.isEmpty_map] at hc; simpa using hc)]))))
    all_goals walk_at "ev"
end
section
open PySem PySem.W PyProof.Rows
set_option maxRecDepth 100000
set_option maxHeartbeats 4000000
variable {C : Mod} {k : Nat}
noncomputable def wv (v : T) : T := if v ≠ [] ∧ v.all bareP = true then v else [34] ++ jesc v ++ [34]
noncomputable def wp' (p : Pair) : T := match p.2 with
  | none => p.1
  | some v => p.1 ++ [61] ++ wv v
noncomputable def joinL (l : List Pair) : T := joined [59, 32] (l.map wp')
noncomputable def joinH (ls : List (List Pair)) : T := joined [44, 32] ((full ls).map joinL)
noncomputable def psz (p : Pair) : Nat := p.1.length + 2 * (p.2.getD []).length + 10
noncomputable def lsz (l : List Pair) : Nat := (l.map psz).sum + 10
noncomputable def tsz (ls : List (List Pair)) : Nat := (ls.map lsz).sum
theorem jesc_len (l : T) : (jesc l).length ≤ 2 * l.length := by
  unfold jesc
  refine flatMap_len (fun c => ?_) l
  split <;> simp
theorem wp_len (p : Pair) : (wp' p).length + 2 ≤ psz p := by
  unfold wp' psz
  cases p.2 with
  | none => simp only [Option.getD_none, List.length_nil]; omega
  | some v =>
    have := jesc_len v
    simp only [Option.getD_some, List.length_append, List.length_singleton]
    unfold wv
    split
    · omega
    · simp only [List.length_append, List.length_singleton]; omega
theorem joined_len (sep : T) : ∀ l : List T, (joined sep l).length ≤ (l.map (·.length)).sum + l.length * sep.length
  | [] => by simp [joined]
  | [x] => by simp [joined]
  | x :: y :: r => by
    have := joined_len sep (y :: r)
    unfold joined
    simp only [List.length_append, List.map_cons, List.sum_cons, List.length_cons, Nat.add_mul, Nat.one_mul] at this ⊢
    omega
theorem wps_len : ∀ l : List Pair, ((l.map wp').map (·.length)).sum + (l.map wp').length * 2 ≤ (l.map psz).sum
  | [] => by simp
  | p :: l => by
    have := wps_len l
    have := wp_len p
    simp only [List.map_cons, List.sum_cons, List.length_cons, Nat.add_mul, Nat.one_mul] at *
    omega
theorem joinL_len (l : List Pair) : (joinL l).length + 2 ≤ lsz l := by
  have h1 := joined_len [59, 32] (l.map wp')
  have h2 := wps_len l
  unfold joinL lsz
  simp only [List.length_cons, List.length_nil] at h1
  omega
theorem joinLs_len : ∀ ls : List (List Pair), (((full ls).map joinL).map (·.length)).sum + ((full ls).map joinL).length * 2 ≤ tsz ls
  | [] => by simp [full, tsz]
  | l :: ls => by
    have h := joinLs_len ls
    have h2 := joinL_len l
    have ht : tsz (l :: ls) = lsz l + tsz ls := by unfold tsz; rw [List.map_cons, List.sum_cons]
    rw [ht]
    unfold full at h ⊢
    rw [List.filter_cons]
    split
    · simp only [List.map_cons, List.sum_cons, List.length_cons, Nat.add_mul, Nat.one_mul] at *
      omega
    · omega
theorem le_sum : ∀ {l : List Nat} {x : Nat}, x ∈ l → x ≤ l.sum
  | y :: l, x, h => by
    rw [List.mem_cons] at h
    rw [List.sum_cons]
    rcases h with rfl | h
    · omega
    · have := le_sum h; omega
theorem psz_mem {l : List Pair} {p : Pair} (h : p ∈ l) : psz p ≤ (l.map psz).sum := le_sum (List.mem_map_of_mem h)
theorem lsz_mem {ls : List (List Pair)} {l : List Pair} (h : l ∈ ls) : lsz l ≤ tsz ls := le_sum (List.mem_map_of_mem h)
theorem psz_count : ∀ l : List Pair, l.length * 10 ≤ (l.map psz).sum
  | [] => by simp
  | p :: l => by
    have := psz_count l
    have : 10 ≤ psz p := by unfold psz; omega
    simp only [List.map_cons, List.sum_cons, List.length_cons]; omega
theorem lsz_count : ∀ ls : List (List Pair), ls.length * 10 ≤ tsz ls
  | [] => by simp [tsz]
  | l :: ls => by
    have := lsz_count ls
    have : 10 ≤ lsz l := by unfold lsz; omega
    unfold tsz at *
    simp only [List.map_cons, List.sum_cons, List.length_cons]; omega
theorem m_joins {x : T} {l : List T} (h : (l.map (·.length)).sum + l.length * x.length ≤ lim) : MethG C k (.str x) "join" [.list (l.map .str)] (.str (joined x l)) := by
  have := m_join (C := C) (k := k) (x := x) (f := fun a : T => a) (l := l) (by rw [List.map_id', ← sum_len]; exact h)
  rw [List.map_id'] at this; exact this
theorem dW_iter {l : List Pair} (h : l.length ≤ lim) : Itb (dW l) (l.map fun p => D.tuple [.str p.1, dO p.2]) := it_list (len_map h)
theorem tr_full {v : T} : Tru C (fullTok v) (decide (v ≠ [] ∧ v.all bareP = true)) := by
  show Tru C (if v ≠ [] ∧ v.all bareP = true then _ else _) _
  split
  · rename_i h; rw [decide_eq_true h]; exact tr_mat
  · rename_i h; rw [decide_eq_false h]; exact tr_none
noncomputable def jnI (ls : List (List Pair)) (i : Nat) (σ : Store) : Prop := At σ "headers" (.own (((full (ls.take i)).map joinL).map .str))
noncomputable def jnJ (hs : List T) (l : List Pair) (j : Nat) (σ : Store) : Prop := At σ "headers" (.own (hs.map .str)) ∧ At σ "attr" (.own (((l.take j).map wp').map .str))
theorem ev_join {P : Pats} (M : ModF C P) (ls : List (List Pair)) (hz : tsz ls ≤ 400000) : Ex C (k + 2) (namesOf "join_header_words") [("lists", .frz (dL ls))] (bodyOf "join_header_words") fun _ fl => fl = .ret (.str (joinH ls)) := by
  have hsub : ∀ {ρ : Ct} {x : T}, ρ "v" = some (.str x) → x.length ≤ 1000000 → Ev C (k + 2) (namesOf "join_header_words") ρ (subOf "join_header_words") (.str (jesc x)) := fun h1 h2 => e_subJ M h1 h2
  conv at hsub in (subOf _) => whnf
  conv at hsub in (namesOf _) => whnf
  conv in (bodyOf _) => whnf
  conv in (namesOf _) => whnf
  have gJ := M.gJ
  have hll := lsz_count ls
  have hjl := joinLs_len ls
  have z0 : ls.length ≤ lim := by simp only [lim]; omega
  have mj : MethG C (k + 2) (.str [44, 32]) "join" [.list (((full ls).map joinL).map .str)] (.str (joinH ls)) := m_joins (by show _ + _ * 2 ≤ _; simp only [lim]; omega)
  refine x_seq (s_asgn (sl := .own []) (es_list l_nil (Nat.zero_le _)) ?_ ?_) (x_cons (s_forM (W := jnI ls) (l := ls) (gi := dW) (d := dL ls) ?_ (it_list (len_map z0)) ?_ pt_hd ?_) (fun σ hσ => ?_) fun σ' d h => by cases h.1)
  any_goals walk_at "ev"
  rotate_left
  · have f : At σ "headers" (.own (((full ls).map joinL).map .str)) := by have := hσ.2; unfold jnI at this; rw [List.take_length] at this; exact this
    refine x_frzo f (x_ret (d := .str (joinH ls)) ?_ rfl)
    walk_at "ev"
  intro i l hl σ f
  replace f : At σ "headers" (.own (((full (ls.take i)).map joinL).map .str)) := f
  have hlz := lsz_mem (List.mem_of_getElem? hl)
  have hlc := psz_count l
  have ht : ls.take (i + 1) = ls.take i ++ [l] := by rw [List.take_add_one, hl]; rfl
  have z1 : l.length ≤ lim := by unfold lsz at hlz; simp only [lim]; omega
  have hw := wps_len l
  refine ⟨_, bf_name ?_, x_seq (s_asgn (sl := .own []) (es_list l_nil (Nat.zero_le _)) ?_ ?_) (x_cons (s_forM (W := jnJ ((full (ls.take i)).map joinL) l) (l := l) (gi := fun p => D.tuple [.str p.1, dO p.2]) (d := dW l) ?_ (dW_iter z1) ?_ ⟨?_, pt_hd⟩ ?_) (fun σ' hσ => ?_) fun σ' d h => by cases h.1)⟩
  any_goals walk_at "ev"
  · intro j p hp σ ⟨g1, g2⟩
    have hpz := psz_mem (List.mem_of_getElem? hp)
    have hj := (List.getElem?_eq_some_iff.mp hp).1
    have htk : l.take (j + 1) = l.take j ++ [p] := by rw [List.take_add_one, hp]; rfl
    have hal : (((l.take j).map wp').map D.str).length ≤ lim := by rw [List.length_map, List.length_map, List.length_take]; unfold lsz at hlz; simp only [lim]; omega
    have hpz2 : psz p ≤ 400000 := by unfold lsz at hlz; omega
    obtain ⟨key, o⟩ := p
    unfold psz at hpz2
    refine ⟨_, bf_two ?_ ?_, x_ifC (c := o.isSome) (J := fun σ' => At σ' "headers" (.own (((full (ls.take i)).map joinL).map .str)) ∧ At σ' "attr" (.own (((l.take j).map wp').map .str)) ∧ At σ' "k" (.frz (.str (wp' (key, o))))) ?_ (fun ho => ?_) (fun ho => ?_) fun σ' ⟨k1, k2, k3⟩ => x_seq (s_app (xs := ((l.take j).map wp').map .str) (d := .str (wp' (key, o))) ?_ ?_ ?_ ?_ hal ?_) (x_nil ⟨rfl, ?_, pt_hd.trans (by rw [htk, List.map_append, List.map_append]; rfl)⟩)⟩
    any_goals walk_at "ev"
    · exact c_dO
    · cases o with
      | none => cases ho
      | some v =>
        have hvl : v.length ≤ 1000000 := by simp only [Option.getD_some] at hpz2; omega
        have hkl : key.length ≤ 1000000 := by simp only at hpz2; omega
        have mJ : MethG C (k + 2) (.pat P.j) "fullmatch" [.str v] (fullTok v) := mg_full M.pJ (zlt hvl)
        have hjl := jesc_len v
        have hw2 : (wv v).length ≤ 1000000 := by
          unfold wv; split
          · exact hvl
          · simp only [Option.getD_some] at hpz2; simp only [List.length_append, List.length_singleton]; omega
        have tJ := tr_full (C := C) (v := v)
        show Ex _ _ _ (put (put σ _ (.frz (.str key))) _ (.frz (.str v))) _ _
        refine x_ifC (c := !decide (v ≠ [] ∧ v.all bareP = true)) (J := fun σ' => At σ' "headers" (.own (((full (ls.take i)).map joinL).map .str)) ∧ At σ' "attr" (.own (((l.take j).map wp').map .str)) ∧ At σ' "k" (.frz (.str key)) ∧ At σ' "v" (.frz (.str (wv v)))) ?_ (fun hc => ?_) (fun hc => ?_) fun σ' ⟨q1, q2, q3, q4⟩ => x_seq (s_asgn (sl := .frz (.str (wp' (key, some v)))) (es_ev (e_js (fz_of q3) (fz_of q4) hkl hw2 ?_)) ?_ ?_) (x_nil ⟨rfl, ?_, ?_, pt_hd⟩)
        any_goals walk_at "ev"
        · have hn : ¬ (v ≠ [] ∧ v.all bareP = true) := fun q => by rw [decide_eq_true q] at hc; cases hc
          have ew : [34] ++ jesc v ++ [34] = wv v := (if_neg hn).symm
          have hj2 : (jesc v).length ≤ 1000000 := by rw [← ew, List.length_append, List.length_append] at hw2; omega
          refine x_seq (s_asgn (sl := .frz (.str (jesc v))) (es_ev (hsub (fz_of pt_hd) hvl)) ?_ ?_) (x_seq (s_asgn (sl := .frz (.str (wv v))) (es_ev (ev_eq (d := .str ([34] ++ jesc v ++ [34])) ?_ (congrArg D.str ew))) ?_ ?_) (x_nil ⟨rfl, ?_, ?_, ?_, pt_hd⟩))
          all_goals walk_at "ev"
        · have hy : v ≠ [] ∧ v.all bareP = true := Decidable.byContradiction fun q => by rw [decide_eq_false q] at hc; cases hc
          have ew : wv v = v := if_pos hy
          rw [ew]
          exact x_nil ⟨rfl, by walk_at "ev", by walk_at "ev", by walk_at "ev", pt_hd⟩
    · cases o with
      | some v => cases ho
      | none => exact x_nil ⟨rfl, by walk_at "ev", by walk_at "ev", pt_tl (by kernel_rfl) pt_hd⟩
  · obtain ⟨_, g1, g2⟩ := hσ
    rw [List.take_length] at g2
    have hll2 : (((full (ls.take i)).map joinL).map D.str).length ≤ lim := by
      have := full_len (ls.take i)
      rw [List.length_map, List.length_map]
      have e2 := List.length_take_le' i ls
      simp only [lim]; omega
    have mj2 : MethG C (k + 2) (.str [59, 32]) "join" [.list ((l.map wp').map .str)] (.str (joinL l)) := m_joins (by show _ + _ * 2 ≤ _; unfold lsz at hlz; simp only [lim]; omega)
    have z3 : ((l.map wp').map D.str).length ≤ lim := len_map (len_map z1)
    have fin : ∀ σ', At σ' "headers" (.own (((full (ls.take i ++ [l])).map joinL).map .str)) → Fl.nxt = .nxt ∧ jnI ls (i + 1) σ' := fun σ' g => by
      rw [← ht] at g
      exact ⟨rfl, g⟩
    have ef : full (ls.take i ++ [l]) = full (ls.take i) ++ (if l.isEmpty then [] else [l]) := by
      unfold full; rw [List.filter_append]
      cases l <;> rfl
    rw [ef] at fin
    refine x_frzo g2 (x_ifL (c := !((l.map wp').map D.str).isEmpty) ?_ (fun hc => x_seq (s_app (xs := ((full (ls.take i)).map joinL).map .str) (d := .str (joinL l)) ?_ ?_ ?_ ?_ hll2 ?_) (x_nil (fin _ (pt_hd.trans ?_)))) fun hc => x_nil (fin _ ((pt_tl (by kernel_rfl) g1).trans ?_)))
    rotate_right 2
    · rw [List.isEmpty_map, List.isEmpty_map] at hc
      rw [if_neg (by intro q; rw [q] at hc; cases hc), List.map_append, List.map_append]; rfl
    · rw [List.isEmpty_map, List.isEmpty_map] at hc
      rw [if_pos (by simpa using hc), List.append_nil]
    all_goals walk_at "ev"
end
section
open PySem PySem.W PyProof.Rows
set_option maxRecDepth 100000
set_option maxHeartbeats 4000000
variable {C : Mod} {k : Nat}
theorem swapB_blocks (w : Nat) (x : T) : ∀ n : Nat, ((List.range n).map fun i => ((x.take (w * i + w)).drop (w * i)).reverse).flatten = swapB n w x
  | 0 => rfl
  | n + 1 => by
    rw [List.range_succ, List.map_append, List.flatten_append, swapB_blocks w x n, swapB_snoc]
    simp only [List.map_cons, List.map_nil, List.flatten_cons, List.flatten_nil, List.append_nil, List.drop_take, Nat.add_sub_cancel_left]
noncomputable def wdFor : Stmt := match bodyOf "law" with | _ :: _ :: _ :: _ :: s :: _ => s | _ => .Pass ⟨0, 0, 0, 0⟩
noncomputable def wdI (x : T) (σ : Store) : Prop := At σ "text" (.frz (.str x)) ∧ At σ "size" (.frz (.int (x.length : Nat)))
theorem fmod_nat {a b : Nat} (h : 0 < b) : ((a : Nat) : Int).fmod (b : Nat) = ((a % b : Nat) : Int) := by
  rw [Int.fmod_eq_emod_of_nonneg _ (Int.natCast_nonneg b)]; rfl
theorem sub_VI : isSubtype (.type "IndexError") (.type "ValueError") = pure false := by rw [isSubtype_type]; kernel_rfl
theorem ev_width (M : Bs C) (ht : C.top (namesOf "law") = true) (x : T) (w : Nat) (hx : x.length ≤ 1000) (hw : w < x.length + 2) (h0 : w = 0 → FnX C k "_law_turned" [.str x, .int (w : Nat)] "ValueError") (h1 : 0 < w → 0 < x.length % w → FnX C k "_law_turned" [.str x, .int (w : Nat)] "IndexError")
    (h2 : 0 < w → x.length % w = 0 → FnG C k "_law_turned" [.str x, .int (w : Nat)] (.str (swapB (x.length / w) w x))) (hok : okT x = true) {σ : Store} (h : wdI x σ) :
    ∃ σ1, BF C k (namesOf "law") (forT wdFor) (.int (w : Nat)) σ σ1 ∧ Ex C k (namesOf "law") σ1 (forBody wdFor) fun σ' fl => fl = .nxt ∧ wdI x σ' := by
  conv at ht in (namesOf _) => whnf
  conv in (forT _) => whnf
  conv in (forBody _) => whnf
  conv in (namesOf _) => whnf
  obtain ⟨a1, a2⟩ := h
  have hxl : x.length ≤ lim := by simp only [lim]; omega
  have qt : Cmp C k .Eq (.str [116, 117, 114, 110, 101, 100]) (.str [116, 117, 114, 110, 101, 100]) true := c_eq (by decide +kernel)
  refine ⟨_, bf_name ?_, x_seq (s_asgn (sl := .frz (.str [116, 117, 114, 110, 101, 100])) (es_ev ?_) ?_ ?_) ?_⟩
  any_goals walk_at "ev"
  rcases Nat.eq_zero_or_pos w with e0 | hp
  · have g := h0 e0
    have q0 : Cmp C k .Eq (.int (w : Nat)) (.int 0) true := (show decide (((w : Nat) : Int) = 0) = true by rw [e0]; rfl) ▸ c_eqi
    have n0 : Cmp C k .NotEq (.str [110, 111, 117, 103, 104, 116]) (.str [110, 111, 117, 103, 104, 116]) false := c_ne (r := true) (by decide +kernel)
    have n1 : Cmp C k .Eq (.str [110, 111, 117, 103, 104, 116]) (.str [116, 117, 114, 110, 101, 100]) false := c_eq (by decide +kernel)
    refine x_seq (s_tryX (x := "told") (y := [110, 111, 117, 103, 104, 116]) ht ?_ (ex_fn (ds := [.str x, .int (w : Nat)]) ?_ g ?_) ?_ (.hit _ _ _ _ _ _ _ _ (.mk _ _ _ ?_ (M.at bv_VE).1 (M.at bv_VE).2 F.isExc_ValueError F.notTuple_ValueError F.self_ValueError) lt19)) (x_ifN (c := false) (t_cmp ?_ (e_ifT (t_cmp ?_ ?_ q0 ?_) ?_) n0 ?_) rfl (x_ifN (c := false) (t_bo (a_and0 (t_cmp ?_ ?_ n1 ?_))) rfl (x_nil ⟨rfl, ?_, ?_⟩)))
    all_goals walk_at "ev"
  have q0 : Cmp C k .Eq (.int (w : Nat)) (.int 0) false := (show decide (((w : Nat) : Int) = 0) = false from decide_eq_false (by omega)) ▸ c_eqi
  have bm : Bin C k .Mod (.int (x.length : Nat)) (.int (w : Nat)) (.int ((x.length % w : Nat) : Int)) := bi_mod ⟨by omega, by omega⟩ (fmod_nat hp)
  rcases Nat.eq_zero_or_pos (x.length % w) with e0 | hq
  · have g := h2 hp e0
    have qg : Cmp C k .Gt (.int ((x.length % w : Nat) : Int)) (.int 0) false := (show decide ((0 : Int) < ((x.length % w : Nat) : Int)) = false by rw [e0]; rfl) ▸ c_gt
    have n0 : Cmp C k .NotEq (.str [116, 117, 114, 110, 101, 100]) (.str [116, 117, 114, 110, 101, 100]) false := c_ne (r := true) (by decide +kernel)
    have hn : x.length = w * (x.length / w) := by have := Nat.div_add_mod x.length w; omega
    have sl : (swapB (x.length / w) w x).length ≤ lim := by rw [swapB_len (Nat.le_of_eq hn.symm), ← hn]; exact hxl
    have so : okT (swapB (x.length / w) w x) = true := by
      unfold okT at hok ⊢
      rw [List.all_eq_true] at hok ⊢
      exact fun c hc => hok c (swapB_mem hc)
    have n1 : Cmp C k .NotEq (.str (swapB (x.length / w) w x)) (.str (swapB (x.length / w) w x)) false := c_ne (r := true) (by rw [eq_str so so, decide_eq_true rfl])
    have r3 : CallG C k (.type "range") [.int 0, .int (x.length : Nat), .int (w : Nat)] (.rng 0 (x.length : Nat) (w : Nat)) := p_range3 ⟨by omega, by omega⟩
    have hit := blocks_iter (u := w) (n := x.length / w) (r := 0) hp hp (by omega) (by omega)
    rw [Nat.add_zero, ← hn, if_pos rfl, Nat.add_zero] at hit
    have zr : (List.range (x.length / w)).length ≤ lim := by rw [List.length_range]; exact Nat.le_trans (Nat.div_le_self _ _) hxl
    have ef := swapB_blocks w x (x.length / w)
    have bk : ∀ i : Nat, Bin C k .Add (.int ((w * i : Nat) : Int)) (.int (w : Nat)) (.int ((w * i + w : Nat) : Int)) := fun i => by
      have := bi_int (C := C) (k := k) (a := ((w * i : Nat) : Int)) (b := (w : Nat))
      rw [← Int.natCast_add] at this; exact this
    have zs : ∀ i : Nat, ((x.take (w * i + w)).drop (w * i)).length ≤ lim := fun i => Nat.le_trans (len_drop _ _) (Nat.le_trans (List.length_take_le' ..) hxl)
    refine x_seq (s_tryN (s_asgn (sl := .frz (.str (swapB (x.length / w) w x))) (es_ev ?_) ?_ ?_)) (x_ifN (c := false) (t_cmp ?_ (e_ifF (t_cmp ?_ ?_ q0 ?_) (e_ifF (t_cmp (e_bin ?_ ?_ bm) ?_ qg ?_) ?_)) n0 ?_) rfl (x_ifN (c := true && (false && true)) (t_bo (a_and (t_cmp ?_ ?_ qt ?_) (a_and (t_cmp ?_ (e_meth (e_lit lt0) (r_of (l_cons (comp1 (l := List.range (x.length / w)) (gi := fun i => .int ((w * i : Nat) : Int)) (G := fun i => .str ((x.take (w * i + w)).drop (w * i)).reverse) ?_ hit (fun _ _ => bnd1 ?_ ?_) (fun _ _ => ts_nil) (fun i hi => e_slice (e_slice ?_ (o_some ?_) (o_some (e_bin ?_ ?_ (bk i))) o_none (ss_nm hxl (Nat.le_add_right _ _) ?le)) o_none o_none (o_some (e_neg e_int)) (ss_rev (zs i))) zr ?_ ?_ ?_) l_nil ?_) ?_) (m_joinE ef sl) ?_ ?_ ?_) n1 ?_) a_nilA))) rfl (x_nil ⟨rfl, ?_, ?_⟩)))
    case le =>
      have hi := List.mem_range.mp hi
      have : w * i + w ≤ w * (x.length / w) := by rw [← Nat.mul_succ]; exact Nat.mul_le_mul_left _ hi
      omega
    all_goals walk_at "ev"
  · have g := h1 hp hq
    have qg : Cmp C k .Gt (.int ((x.length % w : Nat) : Int)) (.int 0) true := (show decide ((0 : Int) < ((x.length % w : Nat) : Int)) = true from decide_eq_true (by omega)) ▸ c_gt
    have n0 : Cmp C k .NotEq (.str [116, 111, 114, 110]) (.str [116, 111, 114, 110]) false := c_ne (r := true) (by decide +kernel)
    have n1 : Cmp C k .Eq (.str [116, 111, 114, 110]) (.str [116, 117, 114, 110, 101, 100]) false := c_eq (by decide +kernel)
    refine x_seq (s_tryX (x := "told") (y := [116, 111, 114, 110]) ht ?_ (ex_fn (ds := [.str x, .int (w : Nat)]) ?_ g ?_) ?_ (.miss _ _ _ _ _ (.mk _ _ _ ?_ (M.at bv_VE).1 (M.at bv_VE).2 F.isExc_ValueError F.notTuple_ValueError sub_VI) (.hit _ _ _ _ _ _ _ _ (.mk _ _ _ ?_ (M.at bv_IE).1 (M.at bv_IE).2 F.isExc_IndexError F.notTuple_IndexError F.self_IndexError) lt20))) (x_ifN (c := false) (t_cmp ?_ (e_ifF (t_cmp ?_ ?_ q0 ?_) (e_ifT (t_cmp (e_bin ?_ ?_ bm) ?_ qg ?_) ?_)) n0 ?_) rfl (x_ifN (c := false) (t_bo (a_and0 (t_cmp ?_ ?_ n1 ?_))) rfl (x_nil ⟨rfl, ?_, ?_⟩)))
    all_goals walk_at "ev"
end
section
open PySem PySem.W PyProof.Rows
set_option maxRecDepth 100000
set_option maxHeartbeats 4000000
variable {C : Mod} {k : Nat}
noncomputable abbrev menu : T := [97, 9, 47, 61, 34, 92, 59, 44, 32, 10, 13, 34]
noncomputable abbrev own : T := [47, 61, 34, 92, 34, 59, 34, 44, 66, 61, 34, 97]
noncomputable def menuAt (x : Int) : Nat := menu.getD (x.fmod 12).toNat 0
noncomputable def textOf (zs : List Int) : T := ((zs.take 60).take 18).map menuAt ++ own.drop (zs.take 60).length
theorem menu_lt (x : Int) : menu[(x.fmod 12).toNat]? = some (menuAt x) := by
  have h : (x.fmod 12).toNat < 12 := by
    rw [Int.fmod_eq_emod_of_nonneg _ (by decide)]; omega
  unfold menuAt
  rw [List.getD_eq_getElem?_getD, List.getElem?_eq_getElem (l := menu) h]; rfl
theorem map_one (f : Int → Nat) : ∀ l : List Int, (l.map fun x => [f x]).flatten = l.map f
  | [] => rfl
  | x :: l => by rw [List.map_cons, List.flatten_cons, map_one f l]; rfl
noncomputable def writtenL (ls : List (List Pair)) : T := joined [44, 32] (ls.map fun l => joined [59, 32] (l.map wr))
theorem ev_law (M : Bs C) (ht : C.top (namesOf "law") = true) (zs : List Int) (hz : zs.length ≤ 63) (x told : T) (ex : textOf zs = x) (c1 c2 cb : List Bool) (r1 r2 rb : List (List Pair)) (hx : x.length ≤ 1000) (hok : okT x = true)
    (hT0 : FnX C k "_law_turned" [.str x, .int (0 : Nat)] "ValueError") (hTX : ∀ w : Nat, 0 < w → w ≤ 2000 → 0 < x.length % w → FnX C k "_law_turned" [.str x, .int (w : Nat)] "IndexError")
    (hTn : ∀ w : Nat, 0 < w → w ≤ 2000 → x.length % w = 0 → FnG C k "_law_turned" [.str x, .int (w : Nat)] (.str (swapB (x.length / w) w x)))
    (hTi : FnG C k "_law_turned" [.str x, .int (x.length : Nat)] (.str x.reverse))
    (hC1 : FnG C k "_law_closed" [.str x.reverse] (.list (c1.map .bool))) (hC2 : FnG C k "_law_closed" [.str x] (.list (c2.map .bool))) (hCb : FnG C k "_law_closed" [.str (x ++ [44] ++ x.reverse)] (.list (cb.map .bool)))
    (hR1 : FnG C k "_law_read" [.str x, .list (c1.map .bool)] (dL r1)) (hR2 : FnG C k "_law_read" [.str x.reverse, .list (c2.map .bool)] (dL r2)) (hRb : FnG C k "_law_read" [.str (x ++ [44] ++ x.reverse), .list (cb.map .bool)] (dL rb))
    (hS1 : FnG C k "split_header_words" [.list [.str x, .str [], .str x.reverse]] (dL (r1 ++ r2))) (hJ : FnG C k "join_header_words" [.list ([.list []] ++ (r1 ++ r2).map dW)] (.str told))
    (hW : ∀ l ∈ r1 ++ r2, ∀ p ∈ l, FnG C k "_law_written" [.str p.1, dO p.2] (.str (wr p)))
    (hS2 : FnG C k "split_header_words" [.list [.str told]] (dL (r1 ++ r2))) (hS3 : FnG C k "split_header_words" [.list [.str (x ++ [44] ++ x.reverse)]] (dL rb))
    (hP : told = writtenL (r1 ++ r2)) (hto : okT told = true) (hok1 : ∀ l ∈ r1 ++ r2, ∀ p ∈ l, okP p = true) (hokb : ∀ l ∈ rb, ∀ p ∈ l, okP p = true)
    (hl1 : r1.length + r2.length ≤ 1000) (hl2 : ∀ l ∈ r1 ++ r2, l.length ≤ 1000) (hl3 : ∀ l ∈ r1 ++ r2, ((l.map wr).flatten.length + l.length * 2) ≤ lim) (hl4 : (((r1 ++ r2).map fun l => joined [59, 32] (l.map wr)).flatten.length + (r1 ++ r2).length * 2) ≤ lim) :
    Ex C k (namesOf "law") [("script", .frz (.list (zs.map .int)))] (bodyOf "law") fun _ fl => fl = .ret (.bool true) := by
  have wd := fun w hw σ h => ev_width (C := C) (k := k) M ht x w hx hw (fun e => e ▸ hT0) (fun h1 h2 => hTX w h1 (by omega) h2) (fun h1 h2 => hTn w h1 (by omega) h2) hok (σ := σ) h
  conv at wd in (forT _) => whnf
  conv at wd in (forBody _) => whnf
  conv at wd in (namesOf _) => whnf
  clear hT0 hTX hTn
  conv in (bodyOf _) => whnf
  conv in (namesOf _) => whnf
  obtain ⟨zn, ezn⟩ : ∃ zn, zn = zs.take 60 := ⟨_, rfl⟩
  have lzn : zn.length ≤ lim := by rw [ezn, List.length_take]; simp only [lim]; omega
  have lz : zs.length ≤ lim := by simp only [lim]; omega
  have k1 : Slc (.list (zs.map .int)) .none (.int 60) .none (.list (zn.map .int)) := (show _ = D.list (zn.map .int) by rw [ezn, List.map_take]) ▸ sl_to (n := 60) (len_map lz)
  have k2 : Slc (.list (zn.map .int)) .none (.int 18) .none (.list ((zn.take 18).map .int)) := (congrArg D.list List.map_take.symm) ▸ sl_to (n := 18) (len_map lzn)
  have k3 : CallG C k (.builtin "len") [.list (zn.map .int)] (.int (zn.length : Nat)) := by
    have := bl_list (C := C) (k := k) (xs := zn.map D.int) (len_map lzn)
    rw [List.length_map] at this; exact this
  have l18 : (zn.take 18).length ≤ lim := Nat.le_trans (List.length_take_le _ _) (by decide)
  have hxl : x.length ≤ lim := by simp only [lim]; omega
  rw [textOf, ← ezn] at ex
  have l9 : ((zn.take 18).map menuAt).length + (own.drop zn.length).length ≤ lim := by rw [← List.length_append, ex]; exact hxl
  have l8 : ((zn.take 18).map menuAt).length ≤ lim := by rw [List.length_map]; exact l18
  have ko : Slc (.str own) (.int (zn.length : Nat)) .none .none (.str (own.drop zn.length)) := ss_from (by decide)
  have km : ∀ i : Int, Itm (.str menu) (.int ((i.fmod 12).toNat : Nat)) (.str [menuAt i]) := fun i => itm_str (menu_lt i) (by decide)
  have bx : Bin C k .Add (.str ((zn.take 18).map menuAt)) (.str (own.drop zn.length)) (.str x) := ex ▸ bi_str l9
  have hit := one_iter (u := x.length + 2) (by omega)
  have r1' : CallG C k (.type "range") [.int ((x.length + 2 : Nat) : Int)] (.rng 0 ((x.length + 2 : Nat) : Int) 1) := p_range1
  have b2 : Bin C k .Add (.int (x.length : Nat)) (.int 2) (.int ((x.length + 2 : Nat) : Int)) := bi_int
  have bL : Bin C k .Add (dL r1) (dL r2) (dL (r1 ++ r2)) := by
    have := bi_list (C := C) (k := k) (x := r1.map dW) (y := r2.map dW) (by rw [List.length_map, List.length_map]; simp only [lim]; omega)
    rw [← List.map_append] at this; exact this
  have q1 : Cmp C k .NotEq (dL (r1 ++ r2)) (dL (r1 ++ r2)) false := c_ne (eqb_self (toPy_dL hok1))
  have q2 : Cmp C k .Eq (dL (r1 ++ r2)) (dL (r1 ++ r2)) true := c_eq (eqb_self (toPy_dL hok1))
  have q3 : Cmp C k .Eq (dL rb) (dL rb) true := c_eq (eqb_self (toPy_dL hokb))
  have q4 : Cmp C k .NotEq (.str told) (.str (writtenL (r1 ++ r2))) false := c_ne (r := true) (by rw [← hP, eq_str hto hto, decide_eq_true rfl])
  have bJ : Bin C k .Add (.list [.list []]) (dL (r1 ++ r2)) (.list ([.list []] ++ (r1 ++ r2).map dW)) := bi_list (by rw [List.length_map, List.length_append, List.length_singleton]; simp only [lim]; omega)
  have zl : (r1 ++ r2).length ≤ lim := by rw [List.length_append]; simp only [lim]; omega
  have hLi : Itb (dL (r1 ++ r2)) ((r1 ++ r2).map dW) := it_list (len_map zl)
  have mj : MethG C k (.str [44, 32]) "join" [.list ((r1 ++ r2).map fun (l : List Pair) => .str (joined [59, 32] (l.map wr)))] (.str (writtenL (r1 ++ r2))) := m_join (f := fun (l : List Pair) => joined [59, 32] (l.map wr)) hl4
  have mr : ∀ l ∈ r1 ++ r2, MethG C k (.str [59, 32]) "join" [.list (l.map fun p => .str (wr p))] (.str (joined [59, 32] (l.map wr))) := fun l hl => m_join (f := wr) (hl3 l hl)
  have zr : ∀ l ∈ r1 ++ r2, l.length ≤ lim := fun l hl => Nat.le_trans (hl2 l hl) (by decide)
  have g1 : x.length + [44].length ≤ lim := by simp only [List.length_singleton, lim]; omega
  have g2 : (x ++ [44]).length + x.reverse.length ≤ lim := by rw [List.length_append, List.length_reverse, List.length_singleton]; simp only [lim]; omega
  refine x_seq (s_asgn (sl := .frz (.list (zn.map .int))) (es_ev ?_) ?_ ?_) (x_seq (s_tup2 (a := .frz (.str menu)) (b := .frz (.str own)) (es_ev (e_lit lt16)) (es_ev (e_lit lt17)) ?_ ?_ ?_ ?_ ?_ ?sw)
    (x_seq (s_asgn (sl := .frz (.str x)) (es_ev (e_bin (e_meth (e_lit lt0) (r_of (l_cons (comp1 (l := zn.take 18) (gi := .int) (G := fun i => .str [menuAt i]) ?_ (it_list (len_map l18)) (fun _ _ => bnd1 ?_ ?_) (fun _ _ => ts_nil) (fun i _ => e_item ?_ ?_ (km i)) l18 ?_ ?_ ?_) l_nil ?_) ?_) (m_joinE (map_one menuAt _) l8) ?_ ?_ ?_) ?_ bx)) ?_ ?_)
    (x_seq (s_asgn (sl := .frz (.int (x.length : Nat))) (es_ev ?_) ?_ ?_) (x_cons (s_rng (W := fun _ σ => wdI x σ) (n := x.length + 2) (gi := fun i => .int (i : Nat)) (e_t_range M (r_of (l_cons (e_bin ?_ ?_ b2) l_nil ?_) ?_) r1' ?_) hit ?_ ⟨?_, ?_⟩ fun i hi σ h => wd i hi σ h) (fun σ ⟨_, w1, w2⟩ => ?_) fun σ' d h => by cases h.1))))
  case sw => intro env h1 h2; left; cases env with | mk scope _ _ _ _ _ _ _ _ => cases scope; cases h1; cases h2; kernel_rfl
  any_goals walk_at "ev"
  refine x_seq (s_asgn (sl := .frz (.str x.reverse)) (es_ev ?_) ?_ ?_) (x_seq (s_asgn (sl := .frz (dL (r1 ++ r2))) (es_ev (e_bin ?_ ?_ bL)) ?_ ?_) (x_ifN (c := false) ?_ rfl (x_seq (s_asgn (sl := .frz (.str told)) (es_ev (e_f (r_of (l_cons (e_bin ?_ ?_ bJ) l_nil ?_) ?_) hJ ?_)) ?_ ?_)
    (x_ifN (c := false) (t_cmp ?_ (e_meth (e_lit lt5) (r_of (l_cons (comp1 (l := r1 ++ r2) (gi := dW) (G := fun (l : List Pair) => .str (joined [59, 32] (l.map wr))) (d1 := dL (r1 ++ r2)) ?_ hLi (fun _ _ => bnd1 ?_ ?_) (fun _ _ => ts_nil) (fun l hl => e_meth (e_lit lt6) (r_of (l_cons (comp1 (l := l) (gi := fun (p : Pair) => D.tuple [.str p.1, dO p.2]) (G := fun (p : Pair) => .str (wr p)) (d1 := dW l) ?_ (dW_iter (zr l hl)) (fun _ _ => bnd2 ?_ ?_ ?_ ?_ ?_) (fun _ _ => ts_nil) (fun p hp => e_f (r_of (l_cons ?_ (l_cons ?_ l_nil ?_) ?_) ?_) (hW l hl p hp) ?_) (zr l hl) ?_ ?_ ?_) l_nil ?_) ?_) (mr l hl) ?_ ?_ ?_) zl ?_ ?_ ?_) l_nil ?_) ?_) mj ?_ ?_ ?_) q4 ?_) rfl
      (x_seq (s_asgn (sl := .frz (.str (x ++ [44] ++ x.reverse))) (es_ev ?_) ?_ ?_) (x_ret (d := .bool true) (e_andT (a := .bool true) ?_ tr_bool ?_) rfl))))))
  any_goals walk_at "ev"
end
end Mine
end
section
open PySem PySem.W PyProof.Rows
namespace Mine
noncomputable def splF (x : T) (ps : List Pair) (rs : List (List Pair)) : List Pair × List (List Pair) := spl (x.length + 1) x ps rs
theorem splF_nil (ps : List Pair) (rs : List (List Pair)) : splF [] ps rs = (ps, rs) := spl_nil _ _ _
theorem splF_tok {x k y : T} (h : tokR x = some (k, y)) (ps : List Pair) (rs : List (List Pair)) : splF x ps rs = splF (afterTok y).2 (ps ++ [(k, (afterTok y).1)]) rs := by
  have hx : x ≠ [] := fun q => by subst q; simp [tokR, span] at h
  unfold splF
  conv => lhs; unfold spl
  rw [if_neg hx, h]
  simp only
  refine spl_fuel _ _ _ _ _ ?_ (by omega)
  rcases tok_cases x hx with ⟨ht, _⟩ | ⟨b, e, hb, he, _, ht⟩
  · rw [h] at ht; cases ht
  · rw [h] at ht
    injection ht with ht
    have hy : y = x.drop e := congrArg Prod.snd ht
    have := after_len y
    have hl : y.length = x.length - e := by rw [hy, List.length_drop]
    omega
theorem splF_comma {x : T} (h : tokR x = none) (hc : (x.dropWhile sp).head? = some 44) (ps : List Pair) (rs : List (List Pair)) : splF x ps rs = splF ((x.dropWhile sp).drop 1) [] (if ps.isEmpty then rs else rs ++ [ps]) := by
  have hx : x ≠ [] := fun q => by subst q; simp at hc
  have hpos : 0 < x.length := by cases x with | nil => exact absurd rfl hx | cons c l => simp
  unfold splF
  conv => lhs; unfold spl
  rw [if_neg hx, h]
  simp only
  rw [if_pos hc]
  have := (List.dropWhile_sublist sp (l := x)).length_le
  exact spl_fuel _ _ _ _ _ (by rw [List.length_drop]; omega) (by omega)
theorem splF_junk {x : T} (h : tokR x = none) (hc : (x.dropWhile sp).head? ≠ some 44) (ps : List Pair) (rs : List (List Pair)) : splF x ps rs = splF (x.drop (span junkP x)) ps rs := by
  by_cases hx : x = []
  · subst hx; rfl
  have hj := junk_pos hx h hc
  have hl := span_le' junkP x
  unfold splF
  conv => lhs; unfold spl
  rw [if_neg hx, h]
  simp only
  rw [if_neg hc]
  exact spl_fuel _ _ _ _ _ (by rw [List.length_drop]; omega) (by omega)
theorem span_app {P : Nat → Bool} {a b : T} (ha : a.all P = true) (hb : ∀ c, b.head? = some c → P c = false) : span P (a ++ b) = a.length := by
  unfold span
  induction a with
  | nil =>
    cases b with
    | nil => rfl
    | cons c b => rw [List.nil_append, List.takeWhile_cons, hb c rfl]; rfl
  | cons c a ih =>
    rw [List.all_cons, Bool.and_eq_true] at ha
    rw [List.cons_append, List.takeWhile_cons, ha.1]
    simp only [if_true, List.length_cons]
    rw [ih ha.2]
theorem tok_not_sp {c : Nat} (h : tokP c = true) : sp c = false := by
  unfold tokP at h; rw [Bool.and_eq_true] at h; simpa using h.2
theorem tok_not_junk {c : Nat} (h : tokP c = true) : junkP c = false := by
  have h2 := tok_not_sp h
  unfold tokP at h; unfold junkP
  simp at h ⊢
  exact ⟨⟨h.1.2, by rw [h2]⟩, h.1.1.2⟩
noncomputable def tokHd (z : T) : Prop := ∀ c, z.head? = some c → tokP c = true
noncomputable def gapP (c : Nat) : Bool := c == 44 || c == 59 || c == 61 || sp c
theorem gap_not_tok {c : Nat} (h : gapP c = true) : tokP c = false := by
  unfold gapP at h; unfold tokP
  simp at h ⊢
  rcases h with ((h | h) | h) | h
  · simp [h]
  · simp [h]
  · simp [h]
  · intros; exact h
theorem tokR_ws {w z k y : T} (hw : w.all sp = true) (hz : tokR z = some (k, y)) (hh : tokHd z) : tokR (w ++ z) = some (k, y) := by
  have e1 : span sp (w ++ z) = w.length := span_app hw fun c hc => tok_not_sp (hh c hc)
  have e2 : span sp z = 0 := by
    have := span_app (a := []) (b := z) (P := sp) rfl fun c hc => tok_not_sp (hh c hc)
    simpa using this
  unfold tokR at hz ⊢
  simp only [e2, List.drop_zero, Nat.zero_add] at hz
  simp only [e1, List.drop_left]
  split at hz
  · cases hz
  · rename_i hne
    rw [if_neg hne]
    injection hz with hz
    rw [← hz]
    congr 2
    · rw [List.drop_take, List.drop_left, Nat.add_sub_cancel_left]
    · rw [← List.drop_drop, List.drop_left]
theorem tokR_some {z : T} (hz : z ≠ []) (hh : tokHd z) : ∃ k y, tokR z = some (k, y) := by
  match z, hz with
  | c :: l, _ =>
    have hc := hh c rfl
    have e2 : span sp (c :: l) = 0 := by unfold span; rw [List.takeWhile_cons, tok_not_sp hc]; rfl
    unfold tokR
    simp only [e2, List.drop_zero]
    have : span tokP (c :: l) ≠ 0 := by unfold span; rw [List.takeWhile_cons, hc]; simp
    rw [if_neg this]
    exact ⟨_, _, rfl⟩
theorem tokR_none {w z : T} (hw : w.all sp = true) (hs : ∀ c, z.head? = some c → sp c = false ∧ tokP c = false) : tokR (w ++ z) = none := by
  have e1 : span sp (w ++ z) = w.length := span_app hw fun c hc => (hs c hc).1
  unfold tokR
  simp only [e1, List.drop_left]
  have : span tokP z = 0 := by
    have := span_app (a := []) (b := z) (P := tokP) rfl fun c hc => (hs c hc).2
    simpa using this
  rw [if_pos this]
noncomputable def gapSt (g : T) (ps : List Pair) (rs : List (List Pair)) : List Pair × List (List Pair) := if g.contains 44 then ([], closeL (ps, rs)) else (ps, rs)
theorem split_at (P : Nat → Bool) (g : T) : ∃ w r, g = w ++ r ∧ w.all P = true ∧ (∀ c, r.head? = some c → P c = false) := by
  refine ⟨g.takeWhile P, g.dropWhile P, (List.takeWhile_append_dropWhile).symm, List.all_takeWhile, fun c hc => ?_⟩
  have := List.head?_dropWhile_not P g
  rw [hc] at this
  simpa using this
theorem contains_app {a b : T} {c : Nat} : (a ++ b).contains c = (a.contains c || b.contains c) := by
  rw [Bool.eq_iff_iff]; simp
theorem gap_run : ∀ (n : Nat) (g z : T) (ps : List Pair) (rs : List (List Pair)), g.length ≤ n → g.all gapP = true → tokHd z → splF (g ++ z) ps rs = splF z (gapSt g ps rs).1 (gapSt g ps rs).2
  | n, [], z, ps, rs, _, _, _ => rfl
  | 0, c :: g, z, ps, rs, hn, _, _ => by simp at hn
  | n + 1, c :: g, z, ps, rs, hn, hg, hz => by
    refine Classical.byContradiction fun ng0 => ?_
    obtain ⟨w, r, he, hw, hr⟩ := split_at sp (c :: g)
    have h44w : w.contains 44 = false := by
      cases h : w.contains 44 with
      | false => rfl
      | true =>
        have := List.all_eq_true.mp hw 44 (by simpa using h)
        exact absurd this (by decide +kernel)
    refine ng0 ?_
    cases r with
    | nil =>
      rw [List.append_nil] at he
      have hst : gapSt (c :: g) ps rs = (ps, rs) := by unfold gapSt; rw [he, h44w]; rfl
      rw [hst, he]
      by_cases hz0 : z = []
      · subst hz0
        rw [List.append_nil]
        have h1 : tokR w = none := by
          have := tokR_none (w := w) (z := []) hw (by simp)
          rwa [List.append_nil] at this
        have h2 : (w.dropWhile sp).head? ≠ some 44 := by
          have : w.dropWhile sp = [] := by
            have := span_app (a := w) (b := []) (P := sp) hw (by simp)
            rw [List.append_nil] at this
            rw [dw_span, this, List.drop_length]
          rw [this]; simp
        rw [splF_junk h1 h2]
        have : span junkP w = w.length := by
          have := span_app (a := w) (b := []) (P := junkP) (List.all_eq_true.mpr fun x hx => by unfold junkP; rw [List.all_eq_true.mp hw x hx]; simp) (by simp)
          rwa [List.append_nil] at this
        rw [this, List.drop_length]
      · refine Classical.byContradiction fun ng0 => ?_
        obtain ⟨k, y, hk⟩ := tokR_some hz0 hz
        refine ng0 ?_
        rw [splF_tok (tokR_ws hw hk hz), splF_tok hk]
    | cons d r =>
      have hd := hr d rfl
      have hmem : ∀ x ∈ w ++ d :: r, gapP x = true := by rw [← he]; exact List.all_eq_true.mp hg
      have hgd : gapP d = true := hmem d (by simp)
      have hlen : w.length + r.length ≤ n := by
        have := congrArg List.length he
        simp only [List.length_cons, List.length_append] at this hn; omega
      rw [he, List.append_assoc, List.cons_append]
      have h1 : tokR (w ++ (d :: (r ++ z))) = none := tokR_none hw fun x hx => by
        simp at hx; subst hx; exact ⟨hd, gap_not_tok hgd⟩
      have hdw : (w ++ (d :: (r ++ z))).dropWhile sp = d :: (r ++ z) := by
        rw [dw_span, span_app hw (fun x hx => by simp at hx; subst hx; exact hd), List.drop_left]
      have hr' : r.all gapP = true := List.all_eq_true.mpr fun x hx => hmem x (by simp [hx])
      by_cases h44 : d = 44
      · subst h44
        rw [splF_comma h1 (by rw [hdw]; rfl), hdw]
        show splF (r ++ z) [] _ = _
        rw [gap_run n r z _ _ (by omega) hr' hz]
        have e1 : gapSt (w ++ 44 :: r) ps rs = ([], closeL (ps, rs)) := by unfold gapSt; rw [contains_app]; simp
        have e2 : ∀ R, gapSt r [] R = ([], R) := fun R => by unfold gapSt closeL; split <;> rfl
        rw [e1, e2]; rfl
      · rw [splF_junk h1 (by rw [hdw]; simpa using h44)]
        refine Classical.byContradiction fun ng0 => ?_
        obtain ⟨j, q, hje, hj, hq⟩ := split_at junkP (w ++ d :: r)
        have hjl : w.length + 1 ≤ j.length := by
          rcases Nat.lt_or_ge w.length j.length with h | h
          · exact h
          · exfalso
            have hq0 : q.head? = ((w ++ d :: r).drop j.length).head? := by rw [hje, List.drop_left]
            rw [List.drop_append_of_le_length h] at hq0
            have hjunk : ∀ x ∈ w ++ [d], junkP x = true := fun x hx => by
              rw [List.mem_append] at hx
              rcases hx with hx | hx
              · unfold junkP; rw [List.all_eq_true.mp hw x hx]; simp
              · simp at hx; subst hx
                unfold gapP at hgd; unfold junkP
                rw [hd] at hgd ⊢
                simp at hgd ⊢
                rcases hgd with (h | h) | h
                · exact absurd h h44
                · exact .inr h
                · exact .inl h
            cases hw2 : w.drop j.length with
            | nil =>
              rw [hw2] at hq0
              have := hq d (by rw [hq0]; rfl)
              rw [hjunk d (by simp)] at this; cases this
            | cons x w2 =>
              rw [hw2] at hq0
              have := hq x (by rw [hq0]; rfl)
              have hx : x ∈ w := by
                have : x ∈ w.drop j.length := by rw [hw2]; simp
                exact List.mem_of_mem_drop this
              rw [hjunk x (by simp [hx])] at this; cases this
        have hspan : span junkP (w ++ d :: (r ++ z)) = j.length := by
          have e : w ++ d :: (r ++ z) = j ++ (q ++ z) := by rw [← List.append_assoc, ← hje]; simp
          rw [e]
          refine span_app hj fun x hx => ?_
          cases q with
          | nil => exact tok_not_junk (hz x hx)
          | cons y q => simp at hx; subst hx; exact hq y rfl
        have hdrop : (w ++ d :: (r ++ z)).drop (span junkP (w ++ d :: (r ++ z))) = q ++ z := by
          rw [hspan]
          have e : w ++ d :: (r ++ z) = j ++ (q ++ z) := by rw [← List.append_assoc, ← hje]; simp
          rw [e, List.drop_left]
        have hql : q.length ≤ n := by
          have := congrArg List.length hje
          simp only [List.length_append, List.length_cons] at this; omega
        have hqg : q.all gapP = true := List.all_eq_true.mpr fun x hx => hmem x (by rw [hje]; simp [hx])
        refine ng0 ?_
        rw [hdrop, gap_run n q z ps rs hql hqg hz]
        have h44j : j.contains 44 = false := by
          cases h : j.contains 44 with
          | false => rfl
          | true =>
            have := List.all_eq_true.mp hj 44 (by simpa using h)
            exact absurd this (by decide +kernel)
        have : gapSt (w ++ d :: r) ps rs = gapSt q ps rs := by
          unfold gapSt; rw [hje, contains_app, h44j, Bool.false_or]
        rw [this]
end Mine
end
section
open PySem PySem.W PyProof.Rows
namespace Mine
theorem tokR_key {k y : T} (hk : k.all tokP = true) (h0 : k ≠ []) (hy : ∀ c, y.head? = some c → tokP c = false) : tokR (k ++ y) = some (k, y) := by
  have e1 : span sp (k ++ y) = 0 := by
    match k, h0 with
    | c :: l, _ =>
      rw [List.all_cons, Bool.and_eq_true] at hk
      unfold span; rw [List.cons_append, List.takeWhile_cons, tok_not_sp hk.1]; rfl
  have e2 : span tokP (k ++ y) = k.length := span_app hk hy
  unfold tokR
  simp only [e1, List.drop_zero, Nat.zero_add, e2]
  have : k.length ≠ 0 := fun h => h0 (List.eq_nil_of_length_eq_zero h)
  rw [if_neg this, List.take_left, List.drop_left]
theorem after_none {y : T} (h : y[span sp y]? ≠ some 61) : afterTok y = (none, y) := by
  have h1 : quoR y = none := by unfold quoR; simp only; rw [if_neg (fun q => h q.1)]
  have h2 : valR y = none := by unfold valR; simp only; rw [if_neg h]
  unfold afterTok; rw [h1]; simp only; rw [h2]
section
variable {w1 w2 r : T} (h1 : w1.all sp = true) (h2 : w2.all sp = true) (hr : ∀ c, r.head? = some c → sp c = false)
include h1 h2 hr
theorem eq_at : span sp (w1 ++ 61 :: (w2 ++ r)) = w1.length ∧ (w1 ++ 61 :: (w2 ++ r))[w1.length]? = some 61 ∧ span sp ((w1 ++ 61 :: (w2 ++ r)).drop (w1.length + 1)) = w2.length ∧
    (w1 ++ 61 :: (w2 ++ r)).drop (w1.length + 1 + w2.length) = r := by
  have hd : (w1 ++ 61 :: (w2 ++ r)).drop (w1.length + 1) = w2 ++ r := by rw [← List.drop_drop, List.drop_left]; rfl
  refine ⟨span_app h1 fun c hc => ?_, ?_, ?_, ?_⟩
  · simp at hc; subst hc; decide +kernel
  · rw [List.getElem?_append_right (Nat.le_refl _), Nat.sub_self]; rfl
  · rw [hd]; exact span_app h2 hr
  · rw [← List.drop_drop, hd, List.drop_left]
theorem quoR_eq : quoR (w1 ++ 61 :: (w2 ++ r)) = if r.head? = some 34 then (qend (r.drop 1)).map fun k => ((r.take (1 + k)).drop 1, r.drop (k + 2)) else none := by
  refine Classical.byContradiction fun ng0 => ?_
  obtain ⟨e1, e2, e3, e4⟩ := eq_at h1 h2 hr
  refine ng0 ?_
  unfold quoR
  simp only [e1, e3]
  have e5 : (w1 ++ 61 :: (w2 ++ r))[w1.length + 1 + w2.length]? = r.head? := by
    have := congrArg List.head? e4
    rw [← this, List.head?_drop]
  have e6 : (w1 ++ 61 :: (w2 ++ r)).drop (w1.length + 1 + w2.length + 1) = r.drop 1 := by rw [← List.drop_drop, e4]
  rw [e2, e5, e6]
  simp only [true_and]
  by_cases h : r.head? = some 34
  · rw [if_pos h, if_pos h]
    congr 1
    funext k
    have a1 : ((w1 ++ 61 :: (w2 ++ r)).take (w1.length + 1 + w2.length + 1 + k)).drop (w1.length + 1 + w2.length + 1) = (r.take (1 + k)).drop 1 := by
      rw [List.drop_take, List.drop_take, e6]; congr 1; omega
    have a2 : (w1 ++ 61 :: (w2 ++ r)).drop (w1.length + 1 + w2.length + 1 + k + 1) = r.drop (k + 2) := by
      have : w1.length + 1 + w2.length + 1 + k + 1 = (w1.length + 1 + w2.length) + (k + 2) := by omega
      rw [this, ← List.drop_drop, e4]
    rw [a1, a2]
  · rw [if_neg h, if_neg h]
theorem valR_eq : valR (w1 ++ 61 :: (w2 ++ r)) = some (r.take (span valP r), r.drop (span valP r)) := by
  refine Classical.byContradiction fun ng0 => ?_
  obtain ⟨e1, e2, e3, e4⟩ := eq_at h1 h2 hr
  refine ng0 ?_
  unfold valR
  simp only [e1, e3, e4, e2, if_true]
  have a1 : ((w1 ++ 61 :: (w2 ++ r)).take (w1.length + 1 + w2.length + span valP r)).drop (w1.length + 1 + w2.length) = r.take (span valP r) := by
    rw [List.drop_take, e4]; congr 1; omega
  have a2 : (w1 ++ 61 :: (w2 ++ r)).drop (w1.length + 1 + w2.length + span valP r) = r.drop (span valP r) := by rw [← List.drop_drop, e4]
  rw [a1, a2]
end
theorem val_not_sp {c : Nat} (h : valP c = true) : sp c = false := by
  unfold valP at h; simp only [Bool.and_eq_true] at h; simpa using h.1.1
theorem rst_id {v : T} (h : v.all valP = true) : rst v = v := by
  unfold rst
  have : v.reverse.dropWhile Unicode.isSpace = v.reverse := by
    cases hv : v.reverse with
    | nil => rfl
    | cons c l =>
      have hc : c ∈ v := by
        have : c ∈ v.reverse := by rw [hv]; simp
        simpa using this
      have := val_not_sp (List.all_eq_true.mp h c hc)
      rw [List.dropWhile_cons]
      unfold sp at this
      rw [this]; rfl
  rw [this, List.reverse_reverse]
theorem after_bare {w1 w2 v y : T} (h1 : w1.all sp = true) (h2 : w2.all sp = true) (hv : v.all valP = true) (hr : ∀ c, (v ++ y).head? = some c → sp c = false) (hq : (v ++ y).head? = some 34 → qend ((v ++ y).drop 1) = none) (hy : ∀ c, y.head? = some c → valP c = false) :
    afterTok (w1 ++ 61 :: (w2 ++ (v ++ y))) = (some v, y) := by
  have e1 : quoR (w1 ++ 61 :: (w2 ++ (v ++ y))) = none := by
    rw [quoR_eq h1 h2 hr]
    split
    · rename_i h; rw [hq h]; rfl
    · rfl
  have e2 := valR_eq h1 h2 hr
  rw [span_app hv hy, List.take_left, List.drop_left] at e2
  unfold afterTok
  rw [e1]; simp only; rw [e2]; simp only
  rw [rst_id hv]
theorem after_quo {w1 w2 b y : T} (h1 : w1.all sp = true) (h2 : w2.all sp = true) (hb : qend (b ++ 34 :: y) = some b.length) : afterTok (w1 ++ 61 :: (w2 ++ (34 :: (b ++ 34 :: y)))) = (some (unesc b), y) := by
  have hr : ∀ c, (34 :: (b ++ 34 :: y) : T).head? = some c → sp c = false := fun c hc => by simp at hc; subst hc; decide +kernel
  have e1 := quoR_eq h1 h2 hr
  rw [if_pos (show (34 :: (b ++ 34 :: y) : T).head? = some 34 from rfl), List.drop_one, List.tail_cons, hb] at e1
  simp only [Option.map_some] at e1
  have a1 : ((34 :: (b ++ 34 :: y) : T).take (1 + b.length)).drop 1 = b := by
    rw [Nat.add_comm, List.take_succ_cons, List.drop_one, List.tail_cons, List.take_left]
  have a2 : (34 :: (b ++ 34 :: y) : T).drop (b.length + 2) = y := by
    have : b.length + 2 = (b.length + 1) + 1 := rfl
    rw [this, List.drop_succ_cons, ← List.drop_drop, List.drop_left]; rfl
  rw [a1, a2] at e1
  unfold afterTok
  rw [e1]
theorem unesc_cons {c : Nat} {r : T} (h : c ≠ 92) : unesc (c :: r) = c :: unesc r := by
  cases r with
  | nil => rfl
  | cons d r =>
    conv => lhs; unfold unesc
    rw [if_neg (fun q => h q.1)]
theorem mark_keep {odd : T} (h1 : odd.contains 34 = true) (h2 : odd.contains 92 = true) (h3 : odd.contains 10 = false) (y : T) : ∀ v : T, qend (v.flatMap (markS odd) ++ 34 :: y) = some (v.flatMap (markS odd)).length ∧ unesc (v.flatMap (markS odd)) = v
  | [] => ⟨by cases y <;> rfl, rfl⟩
  | c :: v => by
    have ih := mark_keep h1 h2 h3 y v
    rw [List.flatMap_cons, List.append_assoc]
    by_cases hc : odd.contains c = true
    · have hm : markS odd c = [92, c] := by unfold markS; rw [if_pos hc]; rfl
      rw [hm]
      have hc10 : c ≠ 10 := fun q => by rw [q, h3] at hc; cases hc
      refine ⟨?_, ?_⟩
      · show qend (92 :: c :: (v.flatMap (markS odd) ++ 34 :: y)) = _
        unfold qend
        rw [if_neg (by decide), if_pos rfl, if_neg hc10, ih.1]
        rfl
      · show unesc (92 :: c :: v.flatMap (markS odd)) = _
        unfold unesc
        rw [if_pos ⟨rfl, hc10⟩, ih.2]
    · have hm : markS odd c = [c] := by unfold markS; rw [if_neg hc]
      rw [hm]
      have n1 : c ≠ 34 := fun q => hc (by rw [q]; exact h1)
      have n2 : c ≠ 92 := fun q => hc (by rw [q]; exact h2)
      have hb : bodyP c = true := by unfold bodyP; simp [n1, n2]
      refine ⟨?_, ?_⟩
      · show qend (c :: (v.flatMap (markS odd) ++ 34 :: y)) = _
        rw [qend_cons hb, ih.1]; rfl
      · show unesc (c :: v.flatMap (markS odd)) = _
        rw [unesc_cons n2, ih.2]
end Mine
end
section
open PySem PySem.W PyProof.Rows
namespace Mine
/-! the law's reader, run from the left -/
noncomputable def rrun : T → RS → RS
  | [], s => s
  | c :: r, s => rrun r (rstep (qend r).isSome s c)
noncomputable def rinit : RS := ⟨[], [], 0, [], []⟩
noncomputable def flags : T → List Bool
  | [] => [false]
  | c :: r => (qend (c :: r)).isSome :: flags r
noncomputable def escd : T → Bool
  | [] => false
  | d :: r => (qend r).isSome && !decide (d = 10)
theorem cl_now (c : Nat) : ∀ r : T, clNow c (qend r).isSome (escd r) = (qend (c :: r)).isSome
  | [] => by
    by_cases h : c = 34
    · subst h; rfl
    · unfold clNow qend escd
      rw [decide_eq_false h, if_neg h]
      cases decide (c = 92) <;> rfl
  | d :: r => by
    unfold escd clNow
    by_cases h : c = 34
    · subst h; rfl
    · by_cases h2 : c = 92
      · subst h2
        show ((qend r).isSome && !decide (d = 10)) = (if 92 = 34 then _ else if 92 = 92 then _ else _ : Option Nat).isSome
        rw [if_neg (by decide), if_pos rfl]
        by_cases h3 : d = 10
        · rw [decide_eq_true h3, if_pos h3]; cases (qend r).isSome <;> rfl
        · rw [decide_eq_false h3, if_neg h3]; cases qend r <;> rfl
      · rw [decide_eq_false h, decide_eq_false h2, qend_cons (c := c) (r := d :: r) (by unfold bodyP; simp [h, h2])]
        cases qend (d :: r) <;> rfl
noncomputable def clSt : T → Bool → Bool → Bool × Bool
  | [], i, e => (i, e)
  | c :: r, i, e => clSt r (clNow c i e) (i && !decide (c = 10))
theorem clSt_snoc (c : Nat) : ∀ (a : T) (i e : Bool), clSt (a ++ [c]) i e = (clNow c (clSt a i e).1 (clSt a i e).2, (clSt a i e).1 && !decide (c = 10)) ∧ clRun (a ++ [c]) i e = clRun a i e ++ [clNow c (clSt a i e).1 (clSt a i e).2]
  | [], i, e => ⟨rfl, rfl⟩
  | d :: a, i, e => ⟨(clSt_snoc c a _ _).1, by
    show clNow d i e :: clRun (a ++ [c]) _ _ = _
    rw [(clSt_snoc c a _ _).2]; rfl⟩
theorem closed_flags : ∀ x : T, clSt x.reverse false false = ((qend x).isSome, escd x) ∧ closedOf x.reverse = flags x
  | [] => ⟨rfl, rfl⟩
  | c :: r => by
    have ih := closed_flags r
    have h := clSt_snoc c r.reverse false false
    rw [ih.1] at h
    rw [List.reverse_cons]
    refine ⟨?_, ?_⟩
    · rw [h.1]
      simp only
      rw [cl_now]; rfl
    · unfold closedOf
      rw [h.2]
      simp only
      rw [cl_now]
      show ((false :: clRun r.reverse false false) ++ [(qend (c :: r)).isSome]).reverse = _
      rw [List.reverse_append]
      show _ :: closedOf r.reverse = _
      rw [ih.2]; rfl
theorem flags_get : ∀ (x : T) (p : Nat), (flags x).getD p false = (qend (x.drop p)).isSome
  | [], 0 => rfl
  | [], p + 1 => rfl
  | c :: r, 0 => rfl
  | c :: r, p + 1 => by
    rw [List.drop_succ_cons, ← flags_get r p]; rfl
theorem flags_len : ∀ x : T, (flags x).length = x.length + 1
  | [] => rfl
  | c :: r => congrArg (· + 1) (flags_len r)
theorem fold_run {x : T} : ∀ i, i ≤ x.length → rrun (x.drop i) (rfold x (flags x) i) = rrun x rinit
  | 0, _ => rfl
  | i + 1, h => by
    rw [← fold_run i (by omega), List.drop_eq_getElem_cons (show i < x.length by omega)]
    show _ = rrun _ (rstep _ _ _)
    rw [← flags_get]
    show rrun _ (rstep _ _ (x.getD i 0)) = _
    rw [List.getD_eq_getElem?_getD (l := x), List.getElem?_eq_getElem (show i < x.length by omega)]; rfl
theorem fold_all (x : T) : rfold x (closedOf x.reverse) x.length = rrun x rinit := by
  rw [(closed_flags x).2, ← fold_run x.length (Nat.le_refl _), List.drop_length]; rfl
/-! the law's signs -/
noncomputable def al : T := [97, 9, 47, 61, 34, 92, 59, 44, 32, 10, 13, 66]
noncomputable abbrev AL (x : T) : Prop := ∀ c ∈ x, c ∈ al
theorem al_cons {c : Nat} {x : T} (h : AL (c :: x)) : c ∈ al ∧ AL x := List.forall_mem_cons.mp h
theorem al_app {x y : T} (h : AL (x ++ y)) : AL x ∧ AL y := List.forall_mem_append.mp h
theorem rclose0 (ls : List (List Pair)) (ws : List Pair) (nm vl : T) : rclose ⟨ls, ws, 0, nm, vl⟩ = ws := rfl
theorem rs9_0 (b : Bool) (s : RS) (c : Nat) : rs9 s c = rstep b ⟨s.ls, rclose s, 0, s.nm, s.vl⟩ c := by
  show _ = rs8 _ c
  cases h : wsp c with
  | false => unfold rs8; rw [h]; rfl
  | true =>
    have h44 : decide (c = 44) = false := decide_eq_false fun q => by subst q; cases h
    unfold rs8 rs9 rs10
    rw [h, h44]; rfl
theorem close_eq (y : T) (s : RS) (h : ∀ d, y.head? = some d → ∀ b, rstep b s d = rs9 s d) : rres (rrun y s) = rres (rrun y ⟨s.ls, rclose s, 0, s.nm, s.vl⟩) := by
  cases y with
  | nil => rfl
  | cons d r =>
    show rres (rrun r (rstep _ s d)) = rres (rrun r (rstep _ _ d))
    rw [h d rfl, ← rs9_0]
theorem full_snoc (ls : List (List Pair)) (ps : List Pair) : full (ls ++ [ps]) = closeL (ps, full ls) := by
  unfold full closeL
  rw [List.filter_append]
  cases ps with
  | nil => exact List.append_nil _
  | cons p ps => rfl
/-! steps -/
section
variable {ls : List (List Pair)} {ps : List Pair} {nm vl : T} {c : Nat} {b : Bool}
theorem gap_step (h : c ∈ al) (hg : gapP c = true) (h4 : c ≠ 44) : rstep b ⟨ls, ps, 0, nm, vl⟩ c = ⟨ls, ps, 0, nm, vl⟩ := by
  have : ∀ c ∈ al, gapP c = true → c ≠ 44 → c ∈ [61, 59, 32, 9, 10, 13] := by decide +kernel
  have := this c h hg h4
  simp only [List.mem_cons, List.not_mem_nil, or_false] at this
  rcases this with rfl | rfl | rfl | rfl | rfl | rfl <;> rfl
theorem tok_step (h : c ∈ al) (ht : tokP c = true) : rstep b ⟨ls, ps, 0, nm, vl⟩ c = ⟨ls, ps, 1, [c], vl⟩ ∧ rstep b ⟨ls, ps, 1, nm, vl⟩ c = ⟨ls, ps, 1, nm ++ [c], vl⟩ ∧ rstep b ⟨ls, ps, 2, nm, vl⟩ c = rs9 ⟨ls, ps, 2, nm, vl⟩ c := by
  have : ∀ c ∈ al, tokP c = true → c ∈ [97, 47, 34, 92, 66] := by decide +kernel
  have := this c h ht
  simp only [List.mem_cons, List.not_mem_nil, or_false] at this
  rcases this with rfl | rfl | rfl | rfl | rfl <;> exact ⟨rfl, rfl, rfl⟩
theorem sp_step (h : c ∈ al) (ht : sp c = true) : rstep b ⟨ls, ps, 1, nm, vl⟩ c = ⟨ls, ps, 2, nm, vl⟩ ∧ rstep b ⟨ls, ps, 2, nm, vl⟩ c = ⟨ls, ps, 2, nm, vl⟩ ∧ rstep b ⟨ls, ps, 3, nm, vl⟩ c = ⟨ls, ps, 3, nm, vl⟩ ∧ rstep b ⟨ls, ps, 0, nm, vl⟩ c = ⟨ls, ps, 0, nm, vl⟩ := by
  have : ∀ c ∈ al, sp c = true → c ∈ [32, 9, 10, 13] := by decide +kernel
  have := this c h ht
  simp only [List.mem_cons, List.not_mem_nil, or_false] at this
  rcases this with rfl | rfl | rfl | rfl <;> exact ⟨rfl, rfl, rfl, rfl⟩
theorem val_step (h : c ∈ al) (ht : valP c = true) : rstep b ⟨ls, ps, 4, nm, vl⟩ c = ⟨ls, ps, 4, nm, vl ++ [c]⟩ ∧ rstep false ⟨ls, ps, 3, nm, vl⟩ c = ⟨ls, ps, 4, nm, vl ++ [c]⟩ ∧ (c ≠ 34 → rstep b ⟨ls, ps, 3, nm, vl⟩ c = ⟨ls, ps, 4, nm, vl ++ [c]⟩) := by
  have : ∀ c ∈ al, valP c = true → c ∈ [97, 47, 61, 34, 92, 66] := by decide +kernel
  have := this c h ht
  simp only [List.mem_cons, List.not_mem_nil, or_false] at this
  rcases this with rfl | rfl | rfl | rfl | rfl | rfl <;> exact ⟨rfl, rfl, fun q => by first | rfl | exact absurd rfl q⟩
theorem end_step (h : c ∈ al) (ht : valP c = false) : rstep b ⟨ls, ps, 4, nm, vl⟩ c = rs9 ⟨ls, ps, 4, nm, vl⟩ c ∧ (sp c = false → rstep b ⟨ls, ps, 3, nm, vl⟩ c = rs9 ⟨ls, ps, 3, nm, vl⟩ c) := by
  have : ∀ c ∈ al, valP c = false → c ∈ [59, 44] ∨ c ∈ [32, 9, 10, 13] ∧ sp c = true := by decide +kernel
  have := this c h ht
  simp only [List.mem_cons, List.not_mem_nil, or_false] at this
  rcases this with (rfl | rfl) | ⟨rfl | rfl | rfl | rfl, h⟩ <;> exact ⟨rfl, fun q => by first | rfl | (rw [q] at h; cases h)⟩
theorem body_step (h1 : c ≠ 34) (h2 : c ≠ 92) : rstep b ⟨ls, ps, 5, nm, vl⟩ c = ⟨ls, ps, 5, nm, vl ++ [c]⟩ := by
  show (if (true && (decide (c = 34) && true)) = true then _ else if decide (c = 92) = true then _ else _) = _
  rw [decide_eq_false h1, decide_eq_false h2]; rfl
end
/-! runs -/
section
variable {ps : List Pair}
theorem gap_go (z nm vl : T) : ∀ (g : T) (ls : List (List Pair)) (ps : List Pair), AL g → g.all gapP = true → ∃ ls', rrun (g ++ z) ⟨ls, ps, 0, nm, vl⟩ = rrun z ⟨ls', (gapSt g ps (full ls)).1, 0, nm, vl⟩ ∧ full ls' = (gapSt g ps (full ls)).2
  | [], ls, ps, _, _ => ⟨ls, rfl, rfl⟩
  | c :: g, ls, ps, ha, hg => by
    rw [List.all_cons, Bool.and_eq_true] at hg
    have ha := al_cons ha
    by_cases h : c = 44
    · subst h
      obtain ⟨l', h1, h2⟩ := gap_go z nm vl g (ls ++ [ps]) [] ha.2 hg.2
      have e2 : ∀ R, gapSt g [] R = ([], R) := fun R => by unfold gapSt closeL; split <;> rfl
      rw [e2] at h1 h2
      have e1 : gapSt (44 :: g) ps (full ls) = ([], closeL (ps, full ls)) := by unfold gapSt; rw [List.contains_cons]; rfl
      rw [e1]
      exact ⟨l', h1, h2.trans (full_snoc ls ps)⟩
    · obtain ⟨l', h1, h2⟩ := gap_go z nm vl g ls ps ha.2 hg.2
      have e1 : gapSt (c :: g) ps (full ls) = gapSt g ps (full ls) := by
        unfold gapSt
        rw [List.contains_cons, show ((44 : Nat) == c) = false from beq_eq_false_iff_ne.mpr (Ne.symm h), Bool.false_or]
      rw [e1]
      refine ⟨l', ?_, h2⟩
      rw [← h1]
      show rrun (g ++ z) (rstep _ _ c) = _
      rw [gap_step ha.1 hg.1 h]
variable {ls : List (List Pair)}
theorem tok_go (z vl : T) : ∀ (g nm : T), AL g → g.all tokP = true → rrun (g ++ z) ⟨ls, ps, 1, nm, vl⟩ = rrun z ⟨ls, ps, 1, nm ++ g, vl⟩
  | [], nm, _, _ => by rw [List.append_nil]; rfl
  | c :: g, nm, ha, hg => by
    rw [List.all_cons, Bool.and_eq_true] at hg
    have ha := al_cons ha
    show rrun (g ++ z) (rstep _ _ c) = _
    rw [(tok_step ha.1 hg.1).2.1, tok_go z vl g _ ha.2 hg.2, List.append_assoc]; rfl
theorem sp_go (z nm vl : T) : ∀ (g : T), AL g → g.all sp = true → rrun (g ++ z) ⟨ls, ps, 2, nm, vl⟩ = rrun z ⟨ls, ps, 2, nm, vl⟩ ∧ rrun (g ++ z) ⟨ls, ps, 3, nm, vl⟩ = rrun z ⟨ls, ps, 3, nm, vl⟩ ∧ rrun (g ++ z) ⟨ls, ps, 0, nm, vl⟩ = rrun z ⟨ls, ps, 0, nm, vl⟩
  | [], _, _ => ⟨rfl, rfl, rfl⟩
  | c :: g, ha, hg => by
    rw [List.all_cons, Bool.and_eq_true] at hg
    have ha := al_cons ha
    have ih := sp_go z nm vl g ha.2 hg.2
    have hs := fun b => sp_step (b := b) (ls := ls) (ps := ps) (nm := nm) (vl := vl) ha.1 hg.1
    refine ⟨(congrArg (rrun (g ++ z)) (hs _).2.1).trans ih.1, (congrArg (rrun (g ++ z)) (hs _).2.2.1).trans ih.2.1, (congrArg (rrun (g ++ z)) (hs _).2.2.2).trans ih.2.2⟩
theorem val_go (z nm : T) : ∀ (g vl : T), AL g → g.all valP = true → rrun (g ++ z) ⟨ls, ps, 4, nm, vl⟩ = rrun z ⟨ls, ps, 4, nm, vl ++ g⟩
  | [], vl, _, _ => by rw [List.append_nil]; rfl
  | c :: g, vl, ha, hg => by
    rw [List.all_cons, Bool.and_eq_true] at hg
    have ha := al_cons ha
    show rrun (g ++ z) (rstep _ _ c) = _
    rw [(val_step ha.1 hg.1).1, val_go z nm g _ ha.2 hg.2, List.append_assoc]; rfl
theorem quo_go (nm : T) : ∀ (q : T) (j : Nat) (v : T), qend q = some j → rrun q ⟨ls, ps, 5, nm, v⟩ = rrun (q.drop (j + 1)) ⟨ls, ps ++ [(nm, some (v ++ unesc (q.take j)))], 0, nm, v ++ unesc (q.take j)⟩
  | [], j, v, h => by cases h
  | [c], j, v, h => by
    unfold qend at h
    split at h
    · rename_i hc; subst hc; cases h
      show _ = rrun [] ⟨ls, ps ++ [(nm, some (v ++ []))], 0, nm, v ++ []⟩
      rw [List.append_nil]; rfl
    · cases h
  | c :: d :: r, j, v, h => by
    unfold qend at h
    split at h
    · rename_i hc; subst hc; cases h
      show _ = rrun (d :: r) ⟨ls, ps ++ [(nm, some (v ++ []))], 0, nm, v ++ []⟩
      rw [List.append_nil]; rfl
    · rename_i n34
      split at h
      · rename_i h92
        subst h92
        split at h
        · cases h
        · rename_i h10
          rw [Option.map_eq_some_iff] at h
          obtain ⟨i, hi, rfl⟩ := h
          have e : unesc ((92 :: d :: r).take (i + 2)) = d :: unesc (r.take i) := by
            show unesc (92 :: d :: r.take i) = _
            conv => lhs; unfold unesc
            rw [if_pos ⟨rfl, h10⟩]
          rw [e]
          have := quo_go nm r i (v ++ [d]) hi
          rw [List.append_assoc] at this
          exact this
      · rename_i n92
        rw [Option.map_eq_some_iff] at h
        obtain ⟨i, hi, rfl⟩ := h
        have e : unesc ((c :: d :: r).take (i + 1)) = c :: unesc ((d :: r).take i) := by rw [List.take_succ_cons, unesc_cons n92]
        rw [e]
        have := quo_go nm (d :: r) i (v ++ [c]) hi
        rw [List.append_assoc] at this
        show rrun (d :: r) (rstep _ _ c) = _
        rw [body_step n34 n92]
        exact this
end
end Mine
end
section
open PySem PySem.W PyProof.Rows
namespace Mine
theorem gap_tok {c : Nat} (h : gapP c = false) : tokP c = true := by
  unfold gapP at h; unfold tokP
  simp at h ⊢
  exact ⟨⟨⟨h.1.1.1, h.1.1.2⟩, h.1.2⟩, h.2⟩
theorem al_sub {x y : T} (h : AL x) (hs : ∀ c ∈ y, c ∈ x) : AL y := fun c hc => h c (hs c hc)
theorem value_run {ls : List (List Pair)} {ps : List Pair} {k t : T} (ht : AL t) (w1 : T) (h1 : w1.all sp = true) :
    ∃ v y, afterTok (w1 ++ 61 :: t) = (some v, y) ∧ y.length ≤ t.length ∧ AL y ∧ ∃ vl, rres (rrun t ⟨ls, ps, 3, k, []⟩) = rres (rrun y ⟨ls, ps ++ [(k, some v)], 0, k, vl⟩) := by
  obtain ⟨w2, r, he, h2, hr⟩ := split_at sp t
  subst he
  have hw := al_app ht
  rw [(sp_go r k [] w2 hw.1 h2).2.1]
  have hz : r.length ≤ (w2 ++ r).length := by rw [List.length_append]; omega
  by_cases hq : ∃ j, r.head? = some 34 ∧ qend (r.drop 1) = some j
  · obtain ⟨j, hq1, hq2⟩ := hq
    match r, hq1 with
    | c :: q, hq1 =>
      injection hq1 with hq1
      subst hq1
      replace hq2 : qend q = some j := hq2
      have e1 := quoR_eq h1 h2 hr
      rw [if_pos (show (34 :: q : T).head? = some 34 from rfl)] at e1
      have e0 : (34 :: q : T).drop 1 = q := rfl
      rw [e0, hq2] at e1
      have e2 : ((34 :: q : T).take (1 + j)).drop 1 = q.take j := by rw [Nat.add_comm]; rfl
      have e3 : (34 :: q : T).drop (j + 2) = q.drop (j + 1) := rfl
      simp only [Option.map_some] at e1
      rw [e2, e3] at e1
      refine ⟨unesc (q.take j), q.drop (j + 1), by unfold afterTok; rw [e1], ?_, al_sub (al_cons hw.2).2 fun c hc => List.mem_of_mem_drop hc, unesc (q.take j), ?_⟩
      · rw [List.length_drop]; simp only [List.length_cons] at hz; omega
      · show rres (rrun q (rstep (qend q).isSome _ 34)) = _
        rw [hq2]
        exact congrArg rres (quo_go k q j [] hq2)
  · obtain ⟨v, y, he, hv, hy⟩ := split_at valP r
    subst he
    have hvy := al_app hw.2
    have ha : afterTok (w1 ++ 61 :: (w2 ++ (v ++ y))) = (some v, y) := after_bare h1 h2 hv hr (fun q => by
      cases hn : qend ((v ++ y).drop 1) with
      | none => rfl
      | some j => exact absurd ⟨j, q, hn⟩ hq) hy
    refine ⟨v, y, ha, by rw [List.length_append] at hz; omega, hvy.2, v, ?_⟩
    cases v with
    | nil =>
      refine close_eq y ⟨ls, ps, 3, k, []⟩ fun d hd b => ?_
      have hd2 : d ∈ al := hvy.2 d (List.mem_of_mem_head? hd)
      exact (end_step hd2 (hy d hd)).2 (hr d hd)
    | cons c v =>
      rw [List.all_cons, Bool.and_eq_true] at hv
      have hc := al_cons hvy.1
      have e : rstep (qend (v ++ y)).isSome ⟨ls, ps, 3, k, []⟩ c = ⟨ls, ps, 4, k, [c]⟩ := by
        by_cases h34 : c = 34
        · subst h34
          have : qend (v ++ y) = none := by
            cases hn : qend (v ++ y) with
            | none => rfl
            | some j => exact absurd ⟨j, rfl, hn⟩ hq
          rw [this]
          exact (val_step (b := false) hc.1 hv.1).2.1
        · exact (val_step hc.1 hv.1).2.2 h34
      show rres (rrun (v ++ y) (rstep (qend (v ++ y)).isSome _ c)) = _
      rw [e, val_go y k v [c] hc.2 hv.2]
      refine close_eq y ⟨ls, ps, 4, k, c :: v⟩ fun d hd b => ?_
      exact (end_step (hvy.2 d (List.mem_of_mem_head? hd)) (hy d hd)).1
theorem read_eq : ∀ (n : Nat) (x : T) (ps : List Pair) (ls : List (List Pair)) (nm vl : T), x.length ≤ n → AL x → closeL (splF x ps (full ls)) = rres (rrun x ⟨ls, ps, 0, nm, vl⟩)
  | n, [], ps, ls, nm, vl, _, _ => by
    rw [splF_nil]
    exact (full_snoc ls ps).symm
  | 0, c :: x, ps, ls, nm, vl, h, _ => by simp at h
  | n + 1, c :: x, ps, ls, nm, vl, hn, ha => by
    obtain ⟨g, z, he, hg, hz⟩ := split_at gapP (c :: x)
    have hzt : tokHd z := fun d hd => gap_tok (hz d hd)
    rw [he] at ha hn ⊢
    have hgz := al_app ha
    cases g with
    | cons d g =>
      rw [gap_run _ _ _ _ _ (Nat.le_refl _) hg hzt]
      obtain ⟨l', h1, h2⟩ := gap_go z nm vl (d :: g) ls ps hgz.1 hg
      rw [h1, ← h2]
      rw [List.length_append, List.length_cons] at hn
      exact read_eq n z _ l' nm vl (by omega) hgz.2
    | nil =>
      rw [List.nil_append] at he hn ha ⊢
      subst he
      clear hgz hg hz
      obtain ⟨k, y, he, hk, hy⟩ := split_at tokP (c :: x)
      cases k with
      | nil =>
        rw [List.nil_append] at he
        subst he
        have := hzt c rfl
        rw [hy c rfl] at this; cases this
      | cons d k =>
        rw [he] at hn ha ⊢
        have hky := al_app ha
        have hd := al_cons hky.1
        have hk' := hk
        rw [List.all_cons, Bool.and_eq_true] at hk'
        have e0 : rrun (d :: k ++ y) ⟨ls, ps, 0, nm, vl⟩ = rrun y ⟨ls, ps, 1, d :: k, vl⟩ := by
          show rrun (k ++ y) (rstep _ _ d) = _
          rw [(tok_step hd.1 hk'.1).1]
          exact tok_go y vl k [d] hd.2 hk'.2
        rw [splF_tok (tokR_key hk (fun q => by cases q) hy), e0]
        rw [List.length_append, List.length_cons] at hn
        obtain ⟨w1, t, he1, hw1, ht⟩ := split_at sp y
        have hyl := congrArg List.length he1
        rw [List.length_append] at hyl
        have hwt := hky.2
        rw [he1] at hwt
        replace hwt := al_app hwt
        by_cases h61 : t.head? = some 61
        · match t, h61 with
          | c :: t, h61 =>
            injection h61 with h61
            subst h61
            have e1 : rrun y ⟨ls, ps, 1, d :: k, vl⟩ = rrun t ⟨ls, ps, 3, d :: k, []⟩ := by
              rw [he1]
              cases w1 with
              | nil => rfl
              | cons a w1 =>
                have ha := al_cons hwt.1
                rw [List.all_cons, Bool.and_eq_true] at hw1
                show rrun (w1 ++ 61 :: t) (rstep _ _ a) = _
                rw [(sp_step ha.1 hw1.1).1, (sp_go (61 :: t) (d :: k) vl w1 ha.2 hw1.2).1]
                rfl
            obtain ⟨v, z, e2, hl, hza, vl', e3⟩ := value_run (ls := ls) (ps := ps) (k := d :: k) (t := t) (al_cons hwt.2).2 w1 hw1
            rw [e1, e3, he1, e2]
            rw [List.length_cons] at hyl
            exact read_eq n z _ ls _ _ (by omega) hza
        · have e1 : afterTok y = (none, y) := after_none (by
            rw [he1, span_app hw1 ht, List.getElem?_append_right (Nat.le_refl _), Nat.sub_self, ← List.head?_eq_getElem?]
            exact h61)
          rw [e1]
          rw [read_eq n y (ps ++ [(d :: k, none)]) ls (d :: k) vl (by omega) hky.2]
          rw [he1]
          have hlast : ∀ st : Int, st = 1 ∧ w1 = [] ∨ st = 2 → rres (rrun t ⟨ls, ps, st, d :: k, vl⟩) = rres (rrun t ⟨ls, ps ++ [(d :: k, none)], 0, d :: k, vl⟩) := fun st hst => by
            have ec : rclose ⟨ls, ps, st, d :: k, vl⟩ = ps ++ [(d :: k, none)] := by rcases hst with ⟨rfl, _⟩ | rfl <;> rfl
            rw [close_eq t ⟨ls, ps, st, d :: k, vl⟩, ec]
            intro a hta b
            have haa : a ∈ al := hwt.2 a (List.mem_of_mem_head? hta)
            have hsa := ht a hta
            rcases hst with ⟨rfl, rfl⟩ | rfl
            · have hnt : tokP a = false := hy a (by rw [he1]; exact hta)
              have h61a : a ≠ 61 := fun q => h61 (by rw [← q]; exact hta)
              have : ∀ c ∈ al, sp c = false → tokP c = false → c ≠ 61 → c ∈ [59, 44] := by decide +kernel
              have := this a haa hsa hnt h61a
              simp only [List.mem_cons, List.not_mem_nil, or_false] at this
              rcases this with rfl | rfl <;> rfl
            · by_cases hta2 : tokP a = true
              · exact (tok_step haa hta2).2.2
              · have h61a : a ≠ 61 := fun q => h61 (by rw [← q]; exact hta)
                have : ∀ c ∈ al, sp c = false → tokP c = false → c ≠ 61 → c ∈ [59, 44] := by decide +kernel
                have := this a haa hsa (by simpa using hta2) h61a
                simp only [List.mem_cons, List.not_mem_nil, or_false] at this
                rcases this with rfl | rfl <;> rfl
          cases w1 with
          | nil => exact (hlast 1 (.inl ⟨rfl, rfl⟩)).symm
          | cons a w1 =>
            have ha := al_cons hwt.1
            have hw := hw1
            rw [List.all_cons, Bool.and_eq_true] at hw
            have e4 : rrun (a :: w1 ++ t) ⟨ls, ps, 1, d :: k, vl⟩ = rrun t ⟨ls, ps, 2, d :: k, vl⟩ := (congrArg (rrun (w1 ++ t)) (sp_step ha.1 hw.1).1).trans (sp_go t (d :: k) vl w1 ha.2 hw.2).1
            rw [e4, (sp_go t (d :: k) vl (a :: w1) hwt.1 hw1).2.2]
            exact (hlast 2 (.inr rfl)).symm
end Mine
end
section
open PySem PySem.W PyProof.Rows
namespace Mine
structure gP (K : Nat) (p : Pair) : Prop where
  ne : p.1 ≠ []
  tok : p.1.all tokP = true
  al : AL p.1
  len : p.1.length ≤ K
  val : ∀ v, p.2 = some v → AL v ∧ v.length ≤ K
structure RG (K i : Nat) (s : RS) : Prop where
  nm : s.nm.length ≤ i ∧ AL s.nm ∧ s.nm.all tokP = true
  n0 : 0 < s.st → s.nm ≠ []
  vl : s.vl.length ≤ i ∧ AL s.vl
  ws : s.ws.length ≤ i ∧ ∀ p ∈ s.ws, gP K p
  ls : s.ls.length ≤ i ∧ ∀ l ∈ s.ls, l.length ≤ K ∧ ∀ p ∈ l, gP K p
theorem len_snoc {α : Type} {l : List α} {a : α} {i : Nat} (h : l.length ≤ i) : (l ++ [a]).length ≤ i + 1 := by rw [List.length_append, List.length_singleton]; omega
theorem mem_snoc {α : Type} {P : α → Prop} {l : List α} {a : α} (h : ∀ x ∈ l, P x) (ha : P a) : ∀ x ∈ l ++ [a], P x := fun x hx => by
  rcases List.mem_append.mp hx with hx | hx
  · exact h x hx
  · rw [List.mem_singleton.mp hx]; exact ha
theorem RG.close {K i : Nat} {s : RS} (h : RG K i s) (hi : i ≤ K) : (rclose s).length ≤ i + 1 ∧ ∀ p ∈ rclose s, gP K p := by
  unfold rclose
  split
  · rename_i hq
    refine ⟨len_snoc h.ws.1, mem_snoc h.ws.2 ⟨h.n0 (of_decide_eq_true hq), h.nm.2.2, h.nm.2.1, Nat.le_trans h.nm.1 hi, fun v hv => ?_⟩⟩
    split at hv
    · cases hv
    · cases hv; exact ⟨h.vl.2, Nat.le_trans h.vl.1 hi⟩
  · exact ⟨Nat.le_succ_of_le h.ws.1, h.ws.2⟩
theorem any_pos {a b st : Int} {r : Bool} (ha : 0 < a) (hb : 0 < b) (h : ([a, b].any (· == st) && r) = true) : 0 < st := by
  rw [Bool.and_eq_true] at h
  have := h.1
  simp only [List.any_cons, List.any_nil, Bool.or_false, Bool.or_eq_true, beq_iff_eq] at this
  rcases this with rfl | rfl
  · exact ha
  · exact hb
theorem wsp_tok {c : Nat} (h : c ∈ al) : ((!wsp c && (![61, 59].contains c && true)) = true → c ≠ 44 → tokP c = true) ∧ ((!wsp c && (![61, 59, 44].contains c && true)) = true → tokP c = true) := by
  have : ∀ c ∈ al, ((!wsp c && (![61, 59].contains c && true)) = true → c ≠ 44 → tokP c = true) ∧ ((!wsp c && (![61, 59, 44].contains c && true)) = true → tokP c = true) := by decide +kernel
  exact this c h
theorem no0 {α : Prop} (h : (0 : Int) < 0) : α := absurd h (by decide)
theorem rg_step {K i c : Nat} {s : RS} {cl : Bool} (hc : c ∈ al) (hi : i + 1 ≤ K) (h : RG K i s) : RG K (i + 1) (rstep cl s c) := by
  have u1 : s.nm.length ≤ i + 1 ∧ AL s.nm ∧ s.nm.all tokP = true := ⟨Nat.le_succ_of_le h.nm.1, h.nm.2⟩
  have u2 : s.vl.length ≤ i + 1 ∧ AL s.vl := ⟨Nat.le_succ_of_le h.vl.1, h.vl.2⟩
  have u3 : s.ws.length ≤ i + 1 ∧ ∀ p ∈ s.ws, gP K p := ⟨Nat.le_succ_of_le h.ws.1, h.ws.2⟩
  have u4 : s.ls.length ≤ i + 1 ∧ ∀ l ∈ s.ls, l.length ≤ K ∧ ∀ p ∈ l, gP K p := ⟨Nat.le_succ_of_le h.ls.1, h.ls.2⟩
  have n2 : (s.vl ++ [c]).length ≤ i + 1 ∧ AL (s.vl ++ [c]) := ⟨len_snoc h.vl.1, mem_snoc h.vl.2 hc⟩
  have cz := h.close (Nat.le_of_succ_le hi)
  have wn : 0 < s.st → (s.ws ++ [(s.nm, some s.vl)]).length ≤ i + 1 ∧ ∀ p ∈ s.ws ++ [(s.nm, some s.vl)], gP K p := fun h0 => ⟨len_snoc h.ws.1, mem_snoc h.ws.2 ⟨h.n0 h0, h.nm.2.2, h.nm.2.1, Nat.le_trans u1.1 hi, fun v hv => by cases hv; exact ⟨h.vl.2, Nat.le_trans u2.1 hi⟩⟩⟩
  have k10 : c ≠ 44 → RG K (i + 1) (rs10 s c) := fun h44 => by
    unfold rs10; split
    · rename_i hq
      have ht := (wsp_tok hc).1 hq h44
      exact ⟨⟨by rw [List.length_singleton]; omega, fun x hx => by rw [List.mem_singleton.mp hx]; exact hc, by rw [List.all_cons, ht]; rfl⟩, fun _ => List.cons_ne_nil _ _, u2, cz, u4⟩
    · exact ⟨u1, no0, u2, cz, u4⟩
  have k9 : RG K (i + 1) (rs9 s c) := by
    unfold rs9; split
    · exact ⟨u1, no0, u2, ⟨Nat.zero_le _, fun p hp => by cases hp⟩, len_snoc h.ls.1, mem_snoc h.ls.2 ⟨Nat.le_trans cz.1 hi, cz.2⟩⟩
    · rename_i hq
      exact k10 fun q => hq (decide_eq_true q)
  have k8 : RG K (i + 1) (rs8 s c) := by
    unfold rs8; split
    · refine ⟨u1, fun q => h.n0 ?_, u2, u3, u4⟩
      dsimp only at q
      split at q
      · rename_i q1; rw [of_decide_eq_true q1]; decide
      · exact q
    · exact k9
  have k7 : RG K (i + 1) (rs7 s c) := by
    unfold rs7; split
    · rename_i hq
      exact ⟨u1, fun _ => h.n0 (any_pos (by decide) (by decide) hq), ⟨Nat.zero_le _, fun p hp => by cases hp⟩, u3, u4⟩
    · exact k8
  have k6 : RG K (i + 1) (rs6 s c) := by
    unfold rs6; split
    · rename_i hq
      rw [Bool.and_eq_true] at hq
      have ht := (wsp_tok hc).2 hq.2
      exact ⟨⟨len_snoc h.nm.1, mem_snoc h.nm.2.1 hc, by rw [List.all_append, h.nm.2.2, List.all_cons, ht]; rfl⟩, fun _ q => absurd (List.append_eq_nil_iff.mp q).2 (List.cons_ne_nil _ _), u2, u3, u4⟩
    · exact k7
  have k5 : RG K (i + 1) (rs5 s c) := by
    unfold rs5; split
    · rename_i hq
      exact ⟨u1, fun _ => h.n0 (any_pos (by decide) (by decide) hq), n2, u3, u4⟩
    · exact k6
  have k4 : RG K (i + 1) (rs4 cl s c) := by
    unfold rs4; split
    · rename_i hq
      rw [Bool.and_eq_true] at hq
      exact ⟨u1, fun _ => h.n0 (by rw [of_decide_eq_true hq.1]; decide), u2, u3, u4⟩
    · exact k5
  have k3 : RG K (i + 1) (rs3 cl s c) := by
    unfold rs3; split
    · rename_i hq
      have h0 : s.nm ≠ [] := h.n0 (by rw [of_decide_eq_true hq]; decide)
      split
      · exact ⟨u1, fun _ => h0, u2, u3, u4⟩
      · exact ⟨u1, fun _ => h0, n2, u3, u4⟩
    · exact k4
  have k2 : RG K (i + 1) (rs2 cl s c) := by
    unfold rs2; split
    · rename_i hq
      rw [Bool.and_eq_true] at hq
      exact ⟨u1, no0, u2, wn (by rw [of_decide_eq_true hq.1]; decide), u4⟩
    · exact k3
  unfold rstep; split
  · rename_i hq
    exact ⟨u1, fun _ => h.n0 (by rw [of_decide_eq_true hq]; decide), n2, u3, u4⟩
  · exact k2
theorem rg_run {K : Nat} : ∀ (x : T) (i : Nat) (s : RS), AL x → i + x.length ≤ K → RG K i s → RG K (i + x.length) (rrun x s)
  | [], i, s, _, _, h => h
  | c :: r, i, s, ha, hk, h => by
    rw [List.length_cons] at hk ⊢
    have := rg_run r (i + 1) _ (al_cons ha).2 (by omega) (rg_step (cl := (qend r).isSome) (al_cons ha).1 (by omega) h)
    rw [show i + (r.length + 1) = i + 1 + r.length by omega]
    exact this
structure gR (K : Nat) (ls : List (List Pair)) : Prop where
  n : ls.length ≤ K
  l : ∀ l ∈ ls, l ≠ [] ∧ l.length ≤ K ∧ ∀ p ∈ l, gP K p
theorem read_good {x : T} (ha : AL x) : gR (x.length + 1) (rres (rrun x rinit)) := by
  have hg : RG (x.length + 1) (0 + x.length) (rrun x rinit) := rg_run x 0 rinit ha (by omega) ⟨⟨Nat.zero_le _, fun p hp => (by cases hp), rfl⟩, no0, ⟨Nat.zero_le _, fun p hp => by cases hp⟩, ⟨Nat.zero_le _, fun p hp => by cases hp⟩, Nat.zero_le _, fun p hp => by cases hp⟩
  rw [Nat.zero_add] at hg
  have cz := hg.close (Nat.le_succ _)
  refine ⟨Nat.le_trans (full_len _) (len_snoc hg.ls.1), fun l hl => ?_⟩
  have hl := List.mem_filter.mp hl
  refine ⟨fun q => (by rw [q] at hl; cases hl.2), ?_⟩
  rcases List.mem_append.mp hl.1 with hm | hm
  · exact hg.ls.2 l hm
  · rw [List.mem_singleton.mp hm]; exact cz
theorem full_id {ls : List (List Pair)} (h : ∀ l ∈ ls, l ≠ []) : full ls = ls := List.filter_eq_self.mpr fun l hl => by
  cases l with
  | nil => exact absurd rfl (h _ hl)
  | cons p l => rfl
end Mine
end
section
open PySem PySem.W PyProof.Rows
namespace Mine
structure EndOK (y : T) : Prop where
  tok : ∀ c, y.head? = some c → tokP c = false
  val : ∀ c, y.head? = some c → valP c = false
  eq : y[span sp y]? ≠ some 61
theorem endOK_nil : EndOK [] := ⟨by simp, by simp, by simp⟩
structure GapOK (g : T) : Prop where
  ne : g ≠ []
  all : g.all gapP = true
  val : ∀ c, g.head? = some c → valP c = false
  eq : (g.drop (span sp g)).head? ≠ some 61
theorem gap_end {g z : T} (hg : GapOK g) (hz : tokHd z) : EndOK (g ++ z) := by
  have hh : (g ++ z).head? = g.head? := by
    have := hg.ne
    cases g with | nil => exact absurd rfl this | cons c g => rfl
  refine ⟨fun c hc => ?_, fun c hc => ?_, ?_⟩
  · rw [hh] at hc
    exact gap_not_tok (List.all_eq_true.mp hg.all c (List.mem_of_mem_head? hc))
  · rw [hh] at hc; exact hg.val c hc
  · refine Classical.byContradiction fun ng0 => ?_
    obtain ⟨w, r, he, hw, hr⟩ := split_at sp g
    have e0 := hg.eq
    have e1 : span sp g = w.length := by rw [he]; exact span_app hw hr
    rw [e1, he, List.drop_left] at e0
    have e2 : span sp (g ++ z) = w.length := by
      rw [he, List.append_assoc]
      refine span_app hw fun c hc => ?_
      cases r with
      | nil => exact tok_not_sp (hz c hc)
      | cons d r => simp at hc; subst hc; exact hr d rfl
    refine ng0 ?_
    rw [e2, he, List.append_assoc, List.getElem?_append_right (Nat.le_refl _), Nat.sub_self]
    cases r with
    | nil =>
      rw [List.nil_append]
      intro q
      have : z.head? = some 61 := by rw [List.head?_eq_getElem?]; exact q
      exact absurd (hz 61 this) (by decide +kernel)
    | cons d r => exact e0
noncomputable def gapB (g : T) : Bool := !g.isEmpty && g.all gapP && (match g.head? with | some c => !valP c | none => true) && !((g.drop (span sp g)).head? == some 61)
theorem gapB_ok {g : T} (h : gapB g = true) : GapOK g := by
  unfold gapB at h
  simp only [Bool.and_eq_true] at h
  obtain ⟨⟨⟨h1, h2⟩, h3⟩, h4⟩ := h
  refine ⟨fun q => by subst q; simp at h1, h2, fun c hc => ?_, fun q => by rw [q] at h4; simp at h4⟩
  rw [hc] at h3; simpa using h3
theorem word_key {K y : T} (hk : K.all tokP = true) (h0 : K ≠ []) (hy : EndOK y) (ps : List Pair) (rs : List (List Pair)) : splF (K ++ y) ps rs = splF y (ps ++ [(K, none)]) rs := by
  rw [splF_tok (tokR_key hk h0 hy.tok), after_none hy.eq]
theorem jesc_mark (v : T) : jesc v = v.flatMap (markS [34, 92]) := by
  unfold jesc
  congr 1
  funext c
  have : oddP c = [34, 92].contains c := by unfold oddP; rw [List.contains_cons, List.contains_cons, List.contains_nil, Bool.or_false]
  unfold markS
  rw [this]; rfl
theorem al_bare {c : Nat} (h : c ∈ al) : (bareP c = true → valP c = true ∧ c ≠ 34 ∧ sp c = false) ∧ bareP c = [97, 66].contains c := by
  have : ∀ c ∈ al, (bareP c = true → valP c = true ∧ c ≠ 34 ∧ sp c = false) ∧ bareP c = [97, 66].contains c := by decide +kernel
  exact this c h
theorem word_back {K : Nat} {p : Pair} {y : T} (h : gP K p) (hy : EndOK y) (ps : List Pair) (rs : List (List Pair)) : splF (wp' p ++ y) ps rs = splF y (ps ++ [p]) rs := by
  obtain ⟨k, o⟩ := p
  cases o with
  | none => exact word_key h.tok h.ne hy ps rs
  | some v =>
    have hv := h.val v rfl
    have e : wp' (k, some v) ++ y = k ++ ([] ++ 61 :: ([] ++ (wv v ++ y))) := by unfold wp'; simp
    rw [e, splF_tok (tokR_key h.tok h.ne fun c hc => by injection hc with hc; subst hc; decide +kernel)]
    have ha : afterTok ([] ++ 61 :: ([] ++ (wv v ++ y))) = (some v, y) := by
      unfold wv
      split
      · rename_i hb
        obtain ⟨h0, hb⟩ := hb
        have hall : ∀ c ∈ v, valP c = true ∧ c ≠ 34 ∧ sp c = false := fun c hc => (al_bare (hv.1 c hc)).1 (List.all_eq_true.mp hb c hc)
        have hh : ∀ c, (v ++ y).head? = some c → c ∈ v := fun c hc => by
          cases v with
          | nil => exact absurd rfl h0
          | cons d v => injection hc with hc; rw [← hc]; exact List.mem_cons_self
        exact after_bare rfl rfl (List.all_eq_true.mpr fun c hc => (hall c hc).1) (fun c hc => (hall c (hh c hc)).2.2) (fun q => absurd rfl (hall 34 (hh 34 q)).2.1) hy.val
      · have e : [34] ++ jesc v ++ [34] ++ y = 34 :: (v.flatMap (markS [34, 92]) ++ 34 :: y) := by rw [jesc_mark]; simp
        have hm := mark_keep (odd := [34, 92]) rfl rfl rfl y v
        rw [e, after_quo rfl rfl hm.1, hm.2]
    rw [ha]
theorem wp_hd {K : Nat} {p : Pair} (h : gP K p) (y : T) : tokHd (wp' p ++ y) := fun c hc => by
  obtain ⟨k, o⟩ := p
  have hn := h.ne
  have ht := h.tok
  cases k with
  | nil => exact absurd rfl hn
  | cons d k =>
    rw [List.all_cons, Bool.and_eq_true] at ht
    have : d = c := by cases o <;> (injection hc)
    rw [← this]; exact ht.1
theorem joined_hd {K : Nat} {l : List Pair} (h : ∀ p ∈ l, gP K p) (h0 : l ≠ []) (y : T) : tokHd (joinL l ++ y) := by
  unfold joinL
  match l, h0 with
  | [p], _ => exact wp_hd (h p (by simp)) y
  | p :: q :: l, _ =>
    show tokHd (wp' p ++ [59, 32] ++ joined [59, 32] ((q :: l).map wp') ++ y)
    rw [List.append_assoc, List.append_assoc]
    exact wp_hd (h p (by simp)) _
theorem gapSC : GapOK [59, 32] := gapB_ok (by decide +kernel)
theorem gapCM : GapOK [44, 32] := gapB_ok (by decide +kernel)
theorem words_back {K : Nat} {y : T} (hy : EndOK y) (rs : List (List Pair)) : ∀ (l : List Pair) (ps : List Pair), (∀ p ∈ l, gP K p) → l ≠ [] → splF (joinL l ++ y) ps rs = splF y (ps ++ l) rs
  | [p], ps, h, _ => word_back (h p (by simp)) hy ps rs
  | p :: q :: l, ps, h, _ => by
    have e : joinL (p :: q :: l) ++ y = wp' p ++ ([59, 32] ++ (joinL (q :: l) ++ y)) := by
      show wp' p ++ [59, 32] ++ joined [59, 32] ((q :: l).map wp') ++ y = _
      rw [List.append_assoc, List.append_assoc]; rfl
    have h' : ∀ p ∈ q :: l, gP K p := fun x hx => h x (List.mem_cons_of_mem _ hx)
    have hd := joined_hd h' (by simp) y
    rw [e, word_back (h p (by simp)) (gap_end gapSC hd), gap_run 2 [59, 32] _ _ _ (Nat.le_refl _) gapSC.all hd]
    have := words_back hy rs (q :: l) (ps ++ [p]) h' (by simp)
    rw [List.append_assoc] at this
    exact this
theorem lists_back {K : Nat} : ∀ (ls : List (List Pair)) (rs : List (List Pair)), (∀ l ∈ ls, l ≠ [] ∧ l.length ≤ K ∧ ∀ p ∈ l, gP K p) → closeL (splF (joined [44, 32] (ls.map joinL)) [] rs) = rs ++ ls
  | [], rs, _ => by
    show closeL (splF [] [] rs) = _
    rw [splF_nil, List.append_nil]; rfl
  | [l], rs, h => by
    have hl := h l (by simp)
    have := words_back (y := []) endOK_nil rs l [] hl.2.2 hl.1
    rw [List.append_nil, splF_nil] at this
    show closeL (splF (joinL l) [] rs) = _
    rw [this]
    cases l with
    | nil => exact absurd rfl hl.1
    | cons p l => rfl
  | l :: m :: ls, rs, h => by
    have hl := h l (by simp)
    have hm := h m (by simp)
    have hd : tokHd (joined [44, 32] ((m :: ls).map joinL)) := by
      cases ls with
      | nil =>
        have := joined_hd hm.2.2 hm.1 []
        rw [List.append_nil] at this; exact this
      | cons n ls =>
        show tokHd (joinL m ++ [44, 32] ++ joined [44, 32] ((n :: ls).map joinL))
        rw [List.append_assoc]
        exact joined_hd hm.2.2 hm.1 _
    show closeL (splF (joinL l ++ [44, 32] ++ joined [44, 32] ((m :: ls).map joinL)) [] rs) = _
    rw [List.append_assoc, words_back (gap_end gapCM hd) rs l [] hl.2.2 hl.1, gap_run 2 [44, 32] _ _ _ (Nat.le_refl _) gapCM.all hd]
    have := lists_back (m :: ls) (rs ++ [l]) fun x hx => h x (List.mem_cons_of_mem _ hx)
    rw [List.append_assoc] at this
    refine Eq.trans ?_ this
    cases l with
    | nil => exact absurd rfl hl.1
    | cons p l => rfl
end Mine
end
section
open PySem PySem.W PyProof.Rows
set_option maxRecDepth 100000
namespace Mine
noncomputable def dueOf (x : T) : List (List Pair) := rres (rrun x rinit)
theorem read_all {x : T} (ha : AL x) : closeL (splF x [] []) = dueOf x := read_eq x.length x [] [] [] [] (Nat.le_refl _) ha
theorem spl_pre (a : List (List Pair)) : ∀ (n : Nat) (x : T) (ps : List Pair) (rs : List (List Pair)), spl n x ps (a ++ rs) = ((spl n x ps rs).1, a ++ (spl n x ps rs).2)
  | 0, x, ps, rs => rfl
  | n + 1, x, ps, rs => by
    unfold spl
    split
    · rfl
    · split
      · exact spl_pre a n _ _ _
      · split
        · rw [show (if ps.isEmpty then a ++ rs else a ++ rs ++ [ps]) = a ++ (if ps.isEmpty then rs else rs ++ [ps]) by split; rfl; rw [List.append_assoc]]
          exact spl_pre a n _ _ _
        · exact spl_pre a n _ _ _
theorem close_pre (a : List (List Pair)) (x : T) : closeL (splF x [] a) = a ++ closeL (splF x [] []) := by
  have := spl_pre a (x.length + 1) x [] []
  rw [List.append_nil] at this
  unfold splF closeL
  rw [this]
  simp only
  split
  · rfl
  · rw [List.append_assoc]
theorem split_three {x y : T} (hx : AL x) (hy : AL y) : split [x, [], y] = dueOf x ++ dueOf y := by
  show closeL (splF y [] (closeL (splF [] [] (closeL (splF x [] []))))) = _
  rw [read_all hx, splF_nil, ← read_all hy]
  exact close_pre (dueOf x) y
/-! sizes -/
theorem sum_le {α : Type} {f : α → Nat} {K : Nat} : ∀ l : List α, (∀ p ∈ l, f p ≤ K) → (l.map f).sum ≤ l.length * K
  | [], _ => Nat.zero_le _
  | p :: l, h => by
    have h := List.forall_mem_cons.mp h
    have := sum_le l h.2
    rw [List.map_cons, List.sum_cons, List.length_cons, Nat.add_mul, Nat.one_mul]; have := h.1; omega
theorem psz_le {K : Nat} {p : Pair} (h : gP K p) (hk : K ≤ 19) : psz p ≤ 67 := by
  unfold psz
  have := h.len
  have : (p.2.getD []).length ≤ K := by
    cases e : p.2 with
    | none => exact Nat.zero_le _
    | some v => exact (h.val v e).2
  omega
theorem lsz_le {K : Nat} {l : List Pair} (h : ∀ p ∈ l, gP K p) (hl : l.length ≤ K) (hk : K ≤ 19) : lsz l ≤ 1283 := by
  unfold lsz
  have := sum_le l fun p hp => psz_le (h p hp) hk
  omega
theorem wr_wp {K : Nat} {p : Pair} (h : gP K p) : wr p = wp' p := by
  obtain ⟨n, o⟩ := p
  cases o with
  | none => rfl
  | some v =>
    have hv := (h.val v rfl).1
    have hb : aB v = true ↔ (v ≠ [] ∧ v.all bareP = true) := by
      unfold aB
      rw [Bool.and_eq_true, Bool.and_true, Bool.not_eq_true', decide_eq_false_iff_not, List.isEmpty_iff, List.filter_eq_nil_iff, List.all_eq_true]
      exact and_congr_right fun _ => forall₂_congr fun c hc => by
        rw [(al_bare (hv c hc)).2]
        cases [97, 66].contains c <;> decide
    show n ++ wrv v = n ++ [61] ++ wv v
    unfold wrv wv
    by_cases q : aB v = true
    · rw [if_pos q, if_pos (hb.mp q), List.append_assoc]
    · rw [if_neg q, if_neg fun z => q (hb.mpr z), jesc_mark]
      simp only [List.append_assoc, List.cons_append, List.nil_append]
theorem al_join {x : T} (hx : AL x) : ∀ l : List T, (∀ y ∈ l, AL y) → AL (joined x l)
  | [], _ => fun _ h => by cases h
  | [y], h => h y (by simp)
  | y :: z :: r, h => by
    have h := List.forall_mem_cons.mp h
    unfold joined
    exact List.forall_mem_append.mpr ⟨List.forall_mem_append.mpr ⟨h.1, hx⟩, al_join hx (z :: r) h.2⟩
theorem al_wp {K : Nat} {p : Pair} (h : gP K p) : AL (wp' p) := by
  obtain ⟨n, o⟩ := p
  cases o with
  | none => exact h.al
  | some v =>
    have hv := (h.val v rfl).1
    refine List.forall_mem_append.mpr ⟨List.forall_mem_append.mpr ⟨h.al, by decide⟩, ?_⟩
    unfold wv
    split
    · exact hv
    · refine List.forall_mem_append.mpr ⟨List.forall_mem_append.mpr ⟨by decide, fun c hc => ?_⟩, by decide⟩
      obtain ⟨d, hd, hc⟩ := List.mem_flatMap.mp hc
      split at hc
      · simp only [List.mem_cons, List.not_mem_nil, or_false] at hc
        rcases hc with rfl | rfl
        · decide
        · exact hv _ hd
      · rw [List.mem_singleton.mp hc]; exact hv _ hd
theorem al_lt {c : Nat} (h : c ∈ al) : c < 256 := (show ∀ c ∈ al, c < 256 by decide) c h
theorem ok_al {x : T} (h : AL x) : okT x = true := List.all_eq_true.mpr fun c hc => decide_eq_true (Nat.lt_trans (al_lt (h c hc)) (by decide))
theorem ok_gP {K : Nat} {p : Pair} (h : gP K p) : okP p = true := by
  obtain ⟨n, o⟩ := p
  unfold okP
  rw [ok_al h.al]
  cases o with
  | none => rfl
  | some v => exact ok_al (h.val v rfl).1
theorem text_al (zs : List Int) : AL (textOf zs) := by
  refine List.forall_mem_append.mpr ⟨fun c hc => ?_, fun c hc => ?_⟩
  · obtain ⟨i, _, rfl⟩ := List.mem_map.mp hc
    exact (show ∀ c ∈ menu, c ∈ al by decide) _ (List.mem_of_getElem? (menu_lt i))
  · exact (show ∀ c ∈ own, c ∈ al by decide) _ (List.mem_of_mem_drop hc)
theorem text_len (zs : List Int) : 0 < (textOf zs).length ∧ (textOf zs).length ≤ 18 := by
  unfold textOf
  rw [List.length_append, List.length_map, List.length_drop, List.length_take (l := zs.take 60)]
  have : own.length = 12 := rfl
  omega
/-! the module's functions -/
variable {C : Mod} {P : Pats} {k : Nat}
noncomputable abbrev Fns (C : Mod) : Prop := ∀ fn : Fn, C.top (namesOf fn.name) = false ∧ ∃ a o fd, FnOK C fn.name a o fd fn.ps (namesOf fn.name) (bodyOf fn.name)
theorem Fns.one (hF : Fns C) (fn : Fn) {ds : List D} {d : D} (hl : ds.length = fn.ps.length) (h : Ex C k (namesOf fn.name) (fn.ps.zip (ds.map .frz)) (bodyOf fn.name) fun _ fl => fl = .ret d) : FnG C (k + 1) fn.name ds d :=
  let ⟨ht, _, _, _, F⟩ := hF fn
  fnG_of F hl ht h
theorem Fns.oneX (hF : Fns C) (fn : Fn) {ds : List D} {cls : String} (hl : ds.length = fn.ps.length) (h : ExX C k (namesOf fn.name) (fn.ps.zip (ds.map .frz)) (bodyOf fn.name) cls) : FnX C (k + 1) fn.name ds cls :=
  let ⟨ht, _, _, _, F⟩ := hF fn
  fnX_of F hl ht h
theorem g_spl (M : ModF C P) (hF : Fns C) (xs : List T) (hz : xs.length ≤ 3) (hx : ∀ x ∈ xs, x.length ≤ 1000000) : FnG C (k + 3) "split_header_words" [.list (xs.map .str)] (dL (split xs)) :=
  hF.one .spl rfl (ev_split M (fun x a b sp h => hF.one .unm rfl (ev_unmatched x a b sp h)) xs hz hx)
theorem g_clo (hF : Fns C) {x : T} (h : AL x) (hx : x.length ≤ 1000) : FnG C (k + 1) "_law_closed" [.str x] (.list ((closedOf x).map .bool)) := hF.one .clo rfl (ev_closed x (by omega) fun c hc => Nat.lt_trans (al_lt (h c hc)) (by decide))
theorem g_rea (M : ModF C P) (hF : Fns C) {x y : T} (h : AL x) (hx : x.length ≤ 1000) (e : x.reverse = y) : FnG C (k + 1) "_law_read" [.str x, .list ((closedOf y).map .bool)] (dL (dueOf x)) := by
  subst e
  have := ev_read (C := C) (k := k) M.bs x (closedOf x.reverse) (by omega) (by rw [(closed_flags x).2, flags_len]) fun c hc => Nat.lt_trans (al_lt (h c hc)) (by decide)
  rw [fold_all] at this
  exact hF.one .rea rfl this
theorem g_tur (M : ModF C P) (hF : Fns C) {x : T} (h : AL x) (hx : x.length ≤ 1000) (w : Nat) (h0 : 0 < w) (hw : w ≤ 2000) (hr : x.length % w = 0) : FnG C (k + 2) "_law_turned" [.str x, .int (w : Nat)] (.str (swapB (x.length / w) w x)) := by
  have e : x.length = w * (x.length / w) := by have := Nat.div_add_mod x.length w; omega
  exact hF.one .tur rfl (ev_turned M.bs x w _ (by omega) (fun c hc => al_lt (h c hc)) e (hF.one .swap rfl (ev_byteswap M.bs (Oct x) w _ (by rw [oct_len]; omega) h0 (by omega) (oct_len.trans e))))
theorem g_turX (M : ModF C P) (hF : Fns C) {x : T} (h : AL x) (hx : x.length ≤ 1000) (w : Nat) (h0 : 0 < w) (hw : w ≤ 2000) (hr : 0 < x.length % w) : FnX C (k + 2) "_law_turned" [.str x, .int (w : Nat)] "IndexError" :=
  hF.oneX .tur rfl (ev_turnedX M.bs x w (by omega) (fun c hc => al_lt (h c hc)) (hF.oneX .swap rfl (ev_byteswapX M.bs (Oct x) w (x.length / w) (x.length % w) (by rw [oct_len]; omega) hr (Nat.mod_lt _ h0) (by omega) (oct_len.trans (Nat.div_add_mod _ _).symm))))
theorem g_tur0 (M : ModF C P) (hF : Fns C) {x : T} (h : AL x) (hx : x.length ≤ 1000) : FnX C (k + 2) "_law_turned" [.str x, .int (0 : Nat)] "ValueError" :=
  hF.oneX .tur rfl (ev_turnedX M.bs x 0 (by omega) (fun c hc => al_lt (h c hc)) (hF.oneX .swap rfl (ev_byteswap0 M.bs (Oct x) (by rw [oct_len]; omega))))
theorem law_true (M : ModF C P) (hF : Fns C) (ht : C.top (namesOf "law") = true) (zs : List Int) (hz : zs.length ≤ 63) : Ex C 3 (namesOf "law") [("script", .frz (.list (zs.map .int)))] (bodyOf "law") fun _ fl => fl = .ret (.bool true) := by
  obtain ⟨x, ex⟩ : ∃ x, textOf zs = x := ⟨_, rfl⟩
  have ha : AL x := ex ▸ text_al zs
  obtain ⟨hp, hx⟩ : 0 < x.length ∧ x.length ≤ 18 := ex ▸ text_len zs
  have hr : AL x.reverse := fun c hc => ha c (List.mem_reverse.mp hc)
  have hrl : x.reverse.length = x.length := List.length_reverse
  have hb : AL (x ++ [44] ++ x.reverse) := List.forall_mem_append.mpr ⟨List.forall_mem_append.mpr ⟨ha, by decide⟩, hr⟩
  have hbl : (x ++ [44] ++ x.reverse).length ≤ 1000 := by rw [List.length_append, List.length_append, List.length_singleton]; omega
  have hbr : (x ++ [44] ++ x.reverse).reverse = x ++ [44] ++ x.reverse := by rw [List.reverse_append, List.reverse_append, List.reverse_reverse, ← List.append_assoc]; rfl
  have g1 := read_good ha
  have g2 := read_good hr
  rw [hrl] at g2
  have gb := read_good hb
  obtain ⟨K, eK⟩ : ∃ K, K = x.length + 1 := ⟨_, rfl⟩
  rw [← eK] at g1 g2
  have hK : K ≤ 19 := by omega
  have gd : ∀ l ∈ dueOf x ++ dueOf x.reverse, l ≠ [] ∧ l.length ≤ K ∧ ∀ p ∈ l, gP K p := List.forall_mem_append.mpr ⟨g1.l, g2.l⟩
  have gn1 := g1.n
  have gn2 := g2.n
  have gl : (dueOf x ++ dueOf x.reverse).length ≤ 38 := by rw [List.length_append]; show (rres (rrun x rinit)).length + (rres (rrun x.reverse rinit)).length ≤ _; omega
  have hs3 := split_three ha hr
  generalize hdue : dueOf x ++ dueOf x.reverse = due at gd gl hs3
  have fu : full due = due := full_id fun l hl => (gd l hl).1
  have jl : ∀ l ∈ due, joinL l = joined [59, 32] (l.map wr) := fun l hl => by
    unfold joinL
    rw [List.map_congr_left fun p hp => (wr_wp ((gd l hl).2.2 p hp)).symm]
  have ej : joinH ([] :: due) = writtenL due := by
    show joined [44, 32] ((full due).map joinL) = _
    rw [fu, List.map_congr_left jl]; rfl
  have al2 : AL (joinH ([] :: due)) := by
    show AL (joined [44, 32] ((full due).map joinL))
    rw [fu]
    refine al_join (by decide) _ fun y hy => ?_
    obtain ⟨l, hl, rfl⟩ := List.mem_map.mp hy
    refine al_join (by decide) _ fun y hy => ?_
    obtain ⟨p, hp, rfl⟩ := List.mem_map.mp hy
    exact al_wp ((gd l hl).2.2 p hp)
  have tl : tsz due ≤ 48754 := by
    have := sum_le due fun l hl => lsz_le (gd l hl).2.2 (gd l hl).2.1 hK
    unfold tsz
    omega
  have jn := joinLs_len due
  have jn2 := joined_len [44, 32] ((full due).map joinL)
  rw [fu] at jn jn2
  have tl2 : (joinH ([] :: due)).length ≤ 1000000 := by
    show (joined [44, 32] ((full due).map joinL)).length ≤ _
    rw [fu]
    simp only [List.length_cons, List.length_nil] at jn2
    omega
  have sb : split [joinH ([] :: due)] = due := by
    show closeL (splF (joined [44, 32] ((full due).map joinL)) [] []) = _
    rw [fu]
    exact lists_back due [] gd
  have sx : split [x ++ [44] ++ x.reverse] = dueOf (x ++ [44] ++ x.reverse) := read_all hb
  have hS1 := g_spl (k := 0) M hF [x, [], x.reverse] (Nat.le_of_ble_eq_true rfl) (by
    intro y hy
    simp only [List.mem_cons, List.not_mem_nil, or_false] at hy
    rcases hy with rfl | rfl | rfl
    · omega
    · exact Nat.zero_le _
    · omega)
  have hS2 := g_spl (k := 0) M hF [joinH ([] :: due)] (Nat.le_of_ble_eq_true rfl) fun y hy => by rw [List.mem_singleton.mp hy]; exact tl2
  have hS3 := g_spl (k := 0) M hF [x ++ [44] ++ x.reverse] (Nat.le_of_ble_eq_true rfl) fun y hy => by rw [List.mem_singleton.mp hy]; omega
  have hTi := g_tur (k := 1) M hF ha (by omega) x.length hp (by omega) (Nat.mod_self _)
  rw [Nat.div_self hp] at hTi
  have e1 : swapB 1 x.length x = x.reverse := by show (x.take x.length).reverse ++ [] = _; rw [List.take_length, List.append_nil]
  rw [e1] at hTi
  rw [hs3] at hS1
  rw [sb] at hS2
  rw [sx] at hS3
  have hJ := hF.one (k := 2) .join (ds := [dL ([] :: due)]) (d := .str (joinH ([] :: due))) rfl (ev_join (k := 0) M ([] :: due) (by show lsz [] + tsz due ≤ _; have : lsz [] = 10 := rfl; omega))
  subst hdue
  exact ev_law M.bs ht zs hz x (joinH ([] :: (dueOf x ++ dueOf x.reverse))) ex (closedOf x.reverse) (closedOf x) (closedOf (x ++ [44] ++ x.reverse)) (dueOf x) (dueOf x.reverse) (dueOf (x ++ [44] ++ x.reverse)) (by omega) (ok_al ha)
    (g_tur0 M hF ha (by omega)) (g_turX M hF ha (by omega)) (g_tur M hF ha (by omega)) hTi (g_clo hF hr (by omega)) (g_clo hF ha (by omega)) (g_clo hF hb hbl) (g_rea M hF ha (by omega) rfl) (g_rea M hF hr (by omega) (List.reverse_reverse _)) (g_rea M hF hb hbl hbr)
    hS1 hJ (fun l hl p hp => hF.one .wri rfl (ev_written p.1 p.2 (by have := ((gd l hl).2.2 p hp).len; omega) fun v hv => by
      have := ((gd l hl).2.2 p hp).val v hv
      exact ⟨by omega, ok_al this.1⟩)) hS2 hS3 ej (ok_al al2) (fun l hl p hp => ok_gP ((gd l hl).2.2 p hp)) (fun l hl p hp => ok_gP ((gb.l l hl).2.2 p hp))
    (by rw [List.length_append] at gl; omega) (fun l hl => by have := (gd l hl).2.1; omega)
    (fun l hl => by
      have h1 := wps_len l
      have h2 := lsz_le (gd l hl).2.2 (gd l hl).2.1 hK
      have h3 := (gd l hl).2.1
      rw [List.map_congr_left fun p hp => wr_wp ((gd l hl).2.2 p hp), List.length_flatten]
      unfold lsz at h2
      simp only [lim]; omega)
    (by
      rw [← List.map_congr_left jl, List.length_flatten]
      simp only [lim]; omega)
theorem law_gives {A : Around} {g : Frz} {s : Shared} (M : ModF C P) (hF : Fns C) (ht : C.top (namesOf "law") = true) {a : Addr} {o : Obj} {fd : FuncData} (FL : FnOK C "law" a o fd ["script"] (namesOf "law") (bodyOf "law")) (zs : List Int) (hz : zs.length ≤ 63) (rm : Room 10 A) (hA : A.frames = some []) (G : Good C g s) {v : Value} (hv : R g (.list (zs.map .int)) v) :
    GivesC C A g s (call (.ref a) [v]) (.bool true) :=
  call_at FL (ds := [.list (zs.map .int)]) rfl (rm.mono (by decide)) (fun _ => hA) G (RL.cons hv RL.nil) (law_true M hF ht zs hz)
end Mine
end
section
open PySem PySem.W PySem.Calls PyProof.Rows
set_option maxRecDepth 100000
namespace Mine
structure Here (K : Frag) (mg mb : Str → Option Value) (h : Heap) : Prop where
  kin : K.In h
  ok : KOK K
  t1 : h.get? 65 = some (tabObj #[])
  t2 : h.get? 82 = some (tabObj #[])
  g : h.Ns mainGlobals mg
  b : h.Ns builtinsNs mb
  nolimit : h.NoLimit
  boot : ∀ x : Str, x ≠ "__name__" → mb x = bootBuiltins x
  bmain : ∃ bm ob, mg "__builtins__" = some (.ref bm) ∧ bm ≠ builtinsNs ∧ h.get? bm = some ob ∧ ob.cls = .type "module" ∧ ob.dict = some builtinsNs ∧ ob.data = .plain
noncomputable def gZero (h : Heap) : Frz := fun a => if a = 65 ∨ a = 82 then none else h.get? a
theorem gZero_at {h : Heap} {a : Addr} {o : Obj} (h1 : a ≠ 65) (h2 : a ≠ 82) (e : h.get? a = some o) : gZero h a = some o := by
  unfold gZero; rw [if_neg (fun k => k.elim h1 h2)]; exact e
theorem gZero_stays {h : Heap} {a : Addr} {o : Obj} (e : gZero h a = some o) : h.get? a = some o := by
  unfold gZero at e; split at e
  · cases e
  · exact e
theorem ns_zero {h : Heap} {g : Frz} {a : Addr} {m : Str → Option Value} (h1 : a ≠ 65) (h2 : a ≠ 82) (n : h.Ns a m) (hg : (gZero h).le g) : NsIn g a m := by
  refine Classical.byContradiction fun ng0 => ?_
  obtain ⟨o, es, ep, e, r⟩ := n
  refine ng0 ?_
  exact ⟨o, es, ep, hg _ _ (gZero_at h1 h2 e), r⟩
noncomputable def TabAt (P : Addr) (pos : Pos) (qn : Str) (g : Frz) (h : Heap) : Prop :=
  ∃ ps, h.get? P = some (tabObj ps) ∧ TriplesOk ps.toList ∧ (codeAmong pos ps.toList = none ∨ ∃ c' oc vs t, codeAmong pos ps.toList = some (.ref c') ∧ g c' = some oc ∧ oc.data = .fields vs ∧ vs[1]? = some (.str (qn ++ "<lambda>") t))
theorem TabAt.keep {P : Addr} {pos : Pos} {qn : Str} {g g' : Frz} {h h' : Heap} (x : TabAt P pos qn g h) (hg : g.le g') (e : h'.get? P = h.get? P) : TabAt P pos qn g' h' := by
  refine Classical.byContradiction fun ng0 => ?_
  obtain ⟨ps, a, b, c⟩ := x
  refine ng0 ?_
  refine ⟨ps, e.trans a, b, c.imp id ?_⟩
  rintro ⟨c', oc, vs, t, h1, h2, h3⟩
  exact ⟨c', oc, vs, t, h1, hg _ _ h2, h3⟩
noncomputable abbrev posS : Pos := lamPos (subOf "split_header_words")
noncomputable abbrev posJ : Pos := lamPos (subOf "join_header_words")
variable {K : Frag} {mg mb : Str → Option Value} {h : Heap}
noncomputable def theMod (prog : Program) (w : World) (H : Here K mg mb h) : Mod where
  prog := prog
  w := w
  mg := mg
  mb := mb
  tabs := [65, 82]
  Base g := (gZero h).le g
  Tab g h' := TabAt 65 posS qSpl g h' ∧ TabAt 82 posJ qJoi g h'
  mono := fun hg hb => Frz.le_trans hb hg
  glob := fun hb => ns_zero (by decide) (by decide) H.g hb
  bltn := fun hb => ns_zero (by decide) (by decide) H.b hb
  nolim := fun hb => let ⟨mc, h1, h2⟩ := H.nolimit; ⟨mc, ns_zero (by decide) (by decide) h1 hb, h2⟩
  tabKeep := fun hg hk x => ⟨x.1.keep hg (hk 65 (by simp)), x.2.keep hg (hk 82 (by simp))⟩
  tabIn := fun x a ha => by
    simp only [List.mem_cons, List.not_mem_nil, or_false] at ha
    rcases ha with rfl | rfl
    · obtain ⟨ps, e, _⟩ := x.1; exact ⟨_, e⟩
    · obtain ⟨ps, e, _⟩ := x.2; exact ⟨_, e⟩
  codeOf := cOf
  codeNo := cOf_no
  top ns := (ns.lookup ("script" : Str)).isSome
  ok := Clean
  okIn := fun Γ c h p x hc => x.enter hc
  okGo := fun Γ c x hc => x.goto hc
variable {prog : Program} {w : World}
theorem kin_g (H : Here K mg mb h) {g : Frz} (hb : (gZero h).le g) : ∀ a o, K.lookup a = some o → g a = some o := fun a o e => by
  refine hb _ _ (gZero_at (fun k => ?_) (fun k => ?_) (H.kin a o e))
  · subst k; rw [H.ok.no1] at e; cases e
  · subst k; rw [H.ok.no2] at e; cases e
theorem mg_of (H : Here K mg mb h) {x : Str} {v : Option Value} (e : nsIn K mainGlobals x = some v) : mg x = v := by
  obtain ⟨o, es, ep, ho, hd, hs, hf⟩ := H.g
  unfold nsIn at e
  split at e
  · rename_i c d es' n sl hk
    have := H.kin _ _ hk
    rw [ho] at this; cases this; cases hd
    rw [← hf x]
    unfold nsFind findBy
    rw [← Array.find?_toList]
    split at e
    · rename_i en he; cases e; rw [he]; rfl
    · rename_i he
      rw [he]
      split at e
      · cases e
      · cases e; rfl
  · cases e
theorem good_zero (H : Here K mg mb h) {s : Shared} (e : s.heap = h) : Good (theMod prog w H) (gZero h) s := by
  subst e
  refine ⟨fun a o e => gZero_stays e, Frz.le_refl _, ⟨⟨#[], H.t1, trivial, .inl rfl⟩, ⟨#[], H.t2, trivial, .inl rfl⟩⟩, fun a ha => ?_⟩
  have ha : a ∈ [65, 82] := ha
  simp only [List.mem_cons, List.not_mem_nil, or_false] at ha
  unfold gZero; rw [if_pos ha]
theorem pat_of (H : Here K mg mb h) {x : Str} {a : Addr} {code : Array Nat} {n : Nat} (k : KPat K x a code n) : mg x = some (.ref a) ∧ ∀ g, (theMod prog w H).Base g → PatAt g a code n := by
  refine ⟨mg_of H k.gl, fun g hb => ?_⟩
  refine Classical.byContradiction fun ng0 => ?_
  obtain ⟨p, fl, ct, cn, h1, h2⟩ := k.at_
  refine ng0 ?_
  exact ⟨p, fl, ct, cn, kin_g H hb _ _ h1, kin_g H hb _ _ h2⟩
structure NmOK (names : Names) (ps : List Str) : Prop where
  nodup : ps.Nodup
  kinds : ∀ x ∈ ps, names.lookup x = some .local ∨ names.lookup x = some .cell
  noFree : ∀ x, names.lookup x ≠ some .free
theorem fnOK_of (H : Here K mg mb h) {f : Str} {a : Addr} {ps : List Str} {fd : FuncData} (k : FnIn K f a ps fd) (hn : NmOK (namesOf f) ps) (hc : ∀ v, cOf (namesOf f) = some v → fd.code = v.1 ∧ fd.qualname ++ ".<locals>." = v.2) :
    FnOK (theMod prog w H) f a (objAt K a) fd ps (namesOf f) (bodyOf f) where
  mg := mg_of H k.gl
  at_ := fun g hb => kin_g H hb _ _ k.lk
  data := by
    have := k.fdk
    unfold fdAt at this
    split at this
    · rename_i fd' e; cases this; exact e
    · cases this
  code := fun g s hb G => codeRec_of (fun b o e => G.stays _ _ (kin_g H hb b o e)) k.code
  body_ := k.body_
  bind := k.bind
  clo := k.clo
  kind := k.kind
  co := k.co
  gen := k.gen
  names_ := k.names_
  nodup := hn.nodup
  cells := fun x hx => (hn.kinds x hx).imp id fun e => ⟨e, fun n => cellsFrom_some _ _ _ (.inl e)⟩
  allCells := fun x e n => cellsFrom_some _ _ _ (.inl e)
  noFree := hn.noFree
  glob := k.glob
  blt := k.blt
  codeOf := hc
end Mine
end
section
open PySem PySem.W PyProof.Rows
set_option maxRecDepth 100000
namespace Mine
theorem ba_no_bytes : typeLookup (.type "bytearray") "__bytes__" = pure none := by rw [typeLookup_type, builtinLookup_eq_fast]; kernel_rfl
theorem ba_no_index : typeLookup (.type "bytearray") "__index__" = pure none := by rw [typeLookup_type, builtinLookup_eq_fast]; kernel_rfl
theorem look_ba_buffer : typeLookup (.type "bytearray") "__buffer__" = pure (some (.builtin "bytearray.__buffer__")) := by rw [typeLookup_type, builtinLookup_eq_fast]; kernel_rfl
theorem dropB : ("bytearray.__buffer__".dropRight ("__buffer__".length + 1)) = "bytearray" := by decide +kernel
variable {C : Mod} {A : Around} {g : Frz} {s : Shared} {E : Value → Shared → Prop}

theorem ownBuffer_ba {a : Addr} {Q : Bool → Shared → Prop} (hT : s.TypeIs (.ref a) "bytearray") (h : Q true s) : wpAny C.M A (Builtin.Bytes.slotIsOwn (.ref a) "__buffer__") Q E s := by
  unfold Builtin.Bytes.slotIsOwn
  refine wpAny_bind (wpAny_specialOf hT look_ba_buffer ?_)
  show wpAny C.M A (do
    if (!("bytearray.__buffer__".endsWith ("." ++ "__buffer__"))) = true then return false
    isInstance (.ref a) (.type ("bytearray.__buffer__".dropRight ("__buffer__".length + 1)))) _ _ s
  rw [dropB]
  have e : (!("bytearray.__buffer__".endsWith ("." ++ "__buffer__"))) = false := by decide +kernel
  rw [e]
  simp only [Bool.false_eq_true, if_false]
  exact wpAny_isInstance hT sub_ba_self h

theorem bytes_of_buf {a : Addr} {b : List UInt8} {Q : Value → Shared → Prop} (ho : s.heap.get? a = some (bufObj b)) (hz : b.length ≤ lim)
    (hQ : ∀ t k, Q (.bytes b.toArray t) { s with toks := k }) : codeAny C.M A (.call (.builtin "bytes.__new__") ⟨[.type "bytes", .ref a], []⟩) (wants Q E) s := by
  refine codeAny_of_tree ?_
  show wpAny _ A.in1 (do checkBuiltinCall "bytes.__new__" ⟨[.type "bytes", .ref a], []⟩; again (.builtin "bytes.__new__" ⟨[.type "bytes", .ref a], []⟩)) _ _ s
  refine wpAny_bind (wpAny_of_eq (F.bm_newCall _) (wpAny_pure ⟨plainId_quiet F.bm_plain _, codeAny_builtin F.bm_entry ?_⟩))
  rw [Around.under_plainId F.bm_plain _]
  have hT : s.TypeIs (.ref a) "bytearray" := ⟨_, ho, rfl⟩
  unfold Builtin.«bytes.__new__»
  refine wpAny_bind (wpAny_of_eq (a := true) rfl ?_)
  refine bm_if_false rfl ?_
  refine wpAny_bind (wpAny_of_eq F.bm_sub ?_)
  refine bm_if_false rfl ?_
  refine wpAny_bind (wpAny_of_eq (F.bm_bind _) ?_)
  refine wpAny_bind (wpAny_of_eq (a := ()) rfl ?_)
  refine wpAny_bind (wpAny_of_eq (a := ()) rfl ?_)
  refine bm_if_false rfl ?_
  refine wpAny_bind (wpAny_specialOf hT ba_no_bytes ?_)
  refine wpAny_bind (wpAny_bind ?_)
  show wpAny _ _ (load a >>= _) _ _ _
  refine wpAny_bind (wpAny_load ho ?_)
  refine wpAny_pure (wpAny_pure ?_)
  refine bm_if_false rfl ?_
  refine wpAny_bind (wpAny_specialOf hT ba_no_index ?_)
  refine bm_if_true rfl ?_
  first
    | show wpAny _ _ (Builtin.Bytes.buffer? "bytes.__new__" (.ref a) true >>= _) _ _ _
    | (refine wpAny_bind ?_; show wpAny _ _ (Builtin.Bytes.buffer? "bytes.__new__" (.ref a) true >>= _) _ _ _)
  refine wpAny_bind ?_
  unfold Builtin.Bytes.buffer?
  refine wpAny_bind (wpAny_specialOf hT look_ba_buffer ?_)
  refine wpAny_bind (ownBuffer_ba hT ?_)
  refine bm_if_false rfl ?_
  refine wpAny_bind (wpAny_specialOf hT look_ba_buffer ?_)
  refine wpAny_bind (ownRelease_ba (C := C) hT ?_)
  refine bm_if_false rfl ?_
  refine wpAny_bind ?_
  unfold Builtin.Bytes.payload Builtin.Bytes.payload?
  refine wpAny_bind (wpAny_bind (wpAny_load ho ?_))
  refine wpAny_pure (wpAny_pure (wpAny_pure ?_))
  refine wpAny_bind (wpAny_rule ?_)
  refine wpAny_bind (wpAny_mkBytes ?_ (by rw [List.size_toArray, sizeLine_is]; exact hz))
  show wpAny _ _ (if (Value.type "bytes" == Value.type "bytes") = true then _ else _) _ _ _
  refine bm_if_true (by decide) ?_
  first
    | exact wpAny_pure (hQ _ _)
    | exact wpAny_bind (wpAny_pure (wpAny_pure (hQ _ _)))

theorem bytesBuf_sound {b : List UInt8} {v : Value} (hz : b.length ≤ lim) (G : Good C g s) (h : R g (.buf b) v) : Gives C A g s (call (.type "bytes") [v]) (.bytes b) := fun E Q q => by
  unfold R at h
  obtain ⟨a, rfl, hg⟩ := h
  refine callType_codes (Q₁ := fun obj s₁ => s₁.TypeIs obj "bytes" ∧ Q obj s₁) F.bm_called (F.bm_typeCall _) F.entry_object_init
    (bytes_of_buf (G.stays _ _ hg) hz fun t k => ⟨PySem.W.typeIs_bytes _ _ _, q _ _ _ (Step.toks G k) ⟨t, rfl⟩⟩) fun obj s₁ h₁ => ?_
  exact ⟨h₁.1, F.args_object_init_2 obj _, object_init_meets F.bm_called.init.lookup F.bm_called.made (by decide) C.prog C.w A.in1 _ s₁ ⟨h₁.1, rfl, h₁.2⟩⟩
end Mine
end
section
open PySem PySem.W PySem.Calls PyProof.Rows
set_option maxRecDepth 100000
namespace Mine
variable {K : Frag} {mg mb : Str → Option Value} {h : Heap} {prog : Program} {w : World}
theorem nm_of {names : Names} {ps : List Str} (h1 : ps.Nodup) (h2 : (ps.all fun x => names.lookup x == some .local || names.lookup x == some .cell) = true) (h3 : (names.all fun x => x.2 != .free) = true) : NmOK names ps where
  nodup := h1
  kinds := fun x hx => by
    have := List.all_eq_true.mp h2 x hx
    simpa using this
  noFree := fun x e => by
    have := List.all_eq_true.mp h3 _ (mem_of_lookup e)
    simp at this
theorem nm_fn (f : Fn) : NmOK (namesOf f.name) f.ps := by
  cases f <;> exact nm_of (by decide +kernel) (by kernel_rfl) (by kernel_rfl)
theorem nm_law : NmOK (namesOf "law") ["script"] := nm_of (by decide +kernel) (by kernel_rfl) (by kernel_rfl)
noncomputable def scS : Scope := (lamScope (subOf "split_header_words")).get (by kernel_rfl)
noncomputable def scJ : Scope := (lamScope (subOf "join_header_words")).get (by kernel_rfl)
theorem tab_grow {P : Addr} {pos : Pos} {qn : Str} {g g' : Frz} {h₀ h' : Heap} {ps : Array Value} {c' : Addr} {oc : Obj} {vs : Array Value} {t : Tok} (T : TabAt P pos qn g h₀) (hP : h₀.get? P = some (tabObj ps))
    (hP' : h'.get? P = some (tabObj (ps ++ #[rawInt pos.line, rawInt pos.col, .ref c']))) (hn : codeAmong pos ps.toList = none) (hc : g' c' = some oc) (hd : oc.data = .fields vs) (hv : vs[1]? = some (.str (qn ++ "<lambda>") t)) : TabAt P pos qn g' h' := by
  refine Classical.byContradiction fun ng0 => ?_
  obtain ⟨ps', e, ht, _⟩ := T
  have : ps' = ps := by rw [hP] at e; injection e with e; injection e with _ _ e; injection e with e; exact e.symm
  subst this
  refine ng0 ?_
  refine ⟨_, hP', ?_, .inr ⟨c', oc, vs, t, ?_, hc, hd, hv⟩⟩
  · rw [Array.toList_append]; exact TriplesOk_snoc _ _ _ _ ht
  · rw [Array.toList_append]; exact codeAmong_snoc _ ht hn
theorem blt_of (H : Here K mg mb h) {g : Frz} {h' : Heap} (hb : (gZero h).le g) (hg : ∀ a o, g a = some o → h'.get? a = some o) {P : Addr} (hP : h.get? P = some (tabObj #[])) : h'.BuiltinsAt mg P := by
  refine Classical.byContradiction fun ng0 => ?_
  obtain ⟨bm, ob, e1, e2, e3, e4, e5, e6⟩ := H.bmain
  have ne : ∀ a o, h.get? a = some o → o.cls ≠ .type "module" → bm ≠ a := fun a o e hc k => by subst k; rw [e3] at e; cases e; exact hc e4
  refine ng0 ?_
  refine ⟨bm, ob, e1, e2, fun k => ?_, ne _ _ hP (by simp), hg _ _ (hb _ _ (gZero_at (ne _ _ H.t1 (by simp)) (ne _ _ H.t2 (by simp)) e3)), e4, e5, e6⟩
  obtain ⟨o, es, ep, ho, hd, _⟩ := H.g
  subst k
  rw [e3] at ho; cases ho
  rw [e6] at hd; cases hd
theorem lam_1 (H : Here K mg mb h) : LamOK (theMod prog w H) 69 65 qSpl posS (lamArgs (subOf "split_header_words")) (lamBody (subOf "split_header_words")) scS "_m" where
  mem := List.mem_cons_self
  head := fun g h' hb hg => codeHd_of_K (fun b o e => hg _ _ (kin_g H hb b o e)) H.ok.hd1
  look := fun g h' T => T.1
  grow := fun g h₀ g' h' ps c' oc vs t T hP hle hk hP' hn hc hd hv => ⟨tab_grow T.1 hP hP' hn hc hd hv, T.2.keep hle (hk 82 (by show (82 : Addr) ∈ [65, 82]; simp) (by decide))⟩
  bltn := fun g h' hb hg => blt_of H hb hg H.t1
  globP := by decide
  defs := fun env => by kernel_rfl
  bind := fun pm cdv ctv v => by kernel_rfl
  names := by kernel_rfl
  kind := by kernel_rfl
  co := by kernel_rfl
  gen := by kernel_rfl
  noCode := by show cOf [(("_m" : Str), NameKind.local)] = none; kernel_rfl
theorem lam_2 (H : Here K mg mb h) : LamOK (theMod prog w H) 86 82 qJoi posJ (lamArgs (subOf "join_header_words")) (lamBody (subOf "join_header_words")) scJ "_m" where
  mem := List.mem_cons_of_mem _ List.mem_cons_self
  head := fun g h' hb hg => codeHd_of_K (fun b o e => hg _ _ (kin_g H hb b o e)) H.ok.hd2
  look := fun g h' T => T.2
  grow := fun g h₀ g' h' ps c' oc vs t T hP hle hk hP' hn hc hd hv => ⟨T.1.keep hle (hk 65 (by show (65 : Addr) ∈ [65, 82]; simp) (by decide)), tab_grow T.2 hP hP' hn hc hd hv⟩
  bltn := fun g h' hb hg => blt_of H hb hg H.t2
  globP := by decide
  defs := fun env => by kernel_rfl
  bind := fun pm cdv ctv v => by kernel_rfl
  names := by kernel_rfl
  kind := by kernel_rfl
  co := by kernel_rfl
  gen := by kernel_rfl
  noCode := by show cOf [(("_m" : Str), NameKind.local)] = none; kernel_rfl
theorem mb_of (H : Here K mg mb h) {x : Str} {v : Value} (hx : x ≠ "__name__") (e : bootBuiltins x = some v) : mb x = some v := (H.boot x hx).trans e
noncomputable def thePats : Pats := ⟨48, 53, 58, 36, 75, 63, 80⟩
theorem hne : ∀ i (h : i < 10), (bPairs[i]'h).1 ≠ ("__name__" : Str) := by decide +kernel
theorem hbt : ∀ i (h : i < 10), bootBuiltins (bPairs[i]'h).1 = some (bPairs[i]'h).2 := by decide +kernel
theorem modF (H : Here K mg mb h) : ModF (theMod prog w H) thePats where
  bs := {
    clean := fun Γ x => x
    bltn := fun i h => ⟨mg_of H (H.ok.free i h), mb_of H (hne i h) (hbt i h)⟩
    ex := ⟨fun hb hh G hv => bytesBuf_sound hb G hv⟩ }
  gT := (pat_of (prog := prog) (w := w) H H.ok.gT).1
  gQ := (pat_of (prog := prog) (w := w) H H.ok.gQ).1
  gV := (pat_of (prog := prog) (w := w) H H.ok.gV).1
  gW := (pat_of (prog := prog) (w := w) H H.ok.gW).1
  gJ := (pat_of (prog := prog) (w := w) H H.ok.gJ).1
  gE := (pat_of (prog := prog) (w := w) H H.ok.gE).1
  gJE := (pat_of (prog := prog) (w := w) H H.ok.gJE).1
  pT := (pat_of H H.ok.gT).2
  pQ := (pat_of H H.ok.gQ).2
  pV := (pat_of H H.ok.gV).2
  pW := (pat_of H H.ok.gW).2
  pJ := (pat_of H H.ok.gJ).2
  pE := (pat_of H H.ok.gE).2
  pJE := (pat_of H H.ok.gJE).2
  lam1 := ⟨69, 65, qSpl, scS, by kernel_rfl, lam_1 H, by kernel_rfl⟩
  lam2 := ⟨86, 82, qJoi, scJ, by kernel_rfl, lam_2 H, by kernel_rfl⟩
end Mine
end
section
open PySem PySem.W PySem.Calls PyProof.Rows
set_option maxRecDepth 100000
namespace Mine
theorem RL_ints {g : Frz} {vs : List Value} {zs : List Int} (h : IntsAre vs zs) : RL g (zs.map D.int) vs := by
  induction h with
  | nil => exact RL.nil
  | cons _ _ _ ih => exact RL.cons (by unfold R; exact ⟨_, rfl⟩) ih
theorem walk_ok {q : Program} {loose : List Str} {XP : (Str → Option Value) → Heap → Prop} {K : Params → Frag} {as : List Addr} {e : ∀ P, as = (K P).map (·.1)} {d : DefRec} {kwd : List (Str × Expr)} (hn : d.name = "law") (hK : ∀ P, KOK (K P)) :
    WalkK q loose XP (kmHook K as e [82, 65]).says PySem.Challenge.rw_rs0082_02.row.toRowW d kwd := by
  intro w s₀ s₁ mg mb G Y fa o pm cd doc dV kV ho hd hcd hD hmg hg args vals as hpre hlay hrd hwl hlo L
  have KX := km_in_of Y
  have KT := km_tabs_of Y
  have H : Here (K w.params) mg mb s₁.heap := ⟨KX, hK _, KT 65 (by simp), KT 82 (by simp), G.T.g, G.T.b, G.T.nolimit, G.T.builtins, G.T.bmain⟩
  refine Classical.byContradiction fun ng0 => ?_
  wrow_args hpre hlay hrd hwl hlo
  rename_i zs hs _ hL1 _ _ as4 as3 la vs as0 hL ra w1 r0 hI hr hc63 _
  have hobj := PySem.W.X.script_obj L hL
  have hla : ∀ P, P = 65 ∨ P = 82 → la ≠ P := fun P hP k => by
    have : s₁.heap.get? P = some (tabObj #[]) := KT P (by rcases hP with rfl | rfl <;> simp)
    rw [← k, hobj] at this; cases this
  have Gd := good_zero (prog := PySem.Challenge.rw_rs0082_02.row.prog) (w := w) H rfl
  have hv : R (gZero s₁.heap) (.list (zs.map .int)) (.ref la) := by
    unfold R
    exact ⟨la, vs, 0, rfl, gZero_at (hla 65 (.inl rfl)) (hla 82 (.inr rfl)) hobj, RL_ints hI⟩
  obtain ⟨fd, hfd⟩ := (hK w.params).law
  have FL : FnOK (theMod PySem.Challenge.rw_rs0082_02.row.prog w H) "law" 121 (objAt (K w.params) 121) fd ["script"] (namesOf "law") (bodyOf "law") := fnOK_of H hfd nm_law fun v e => by
    have : cOf (namesOf "law") = none := by kernel_rfl
    rw [this] at e; cases e
  have hfa : fa = 121 := by
    have h1 := FL.mg
    rw [hn] at hmg
    have h2 : mg ("law" : Str) = some (.ref 121) := h1
    have h3 := hmg.symm.trans h2
    injection h3 with h3; injection h3
  subst hfa
  refine ng0 (law_gives (A := callerA) (modF H) (fun f => ?_) (by kernel_rfl) FL zs (by omega) ⟨rfl, by decide, by decide⟩ rfl Gd hv _ _ fun v g' s' st hr' => ?_)
  · obtain ⟨fd', hf, hc⟩ := (hK w.params).fn f
    exact ⟨by cases f <;> kernel_rfl, f.at, _, fd', fnOK_of H hf (nm_fn f) hc⟩
  · unfold R at hr'
    subst hr'
    obtain ⟨h', tk, rfl⟩ := st.same
    have tabs : ∀ P, P = 65 ∨ P = 82 → ∃ ps, h'.get? P = some (tabObj ps) := fun P hP => by
      have T := st.good.tab
      rcases hP with rfl | rfl
      · obtain ⟨ps, e, _⟩ := T.1; exact ⟨ps, e⟩
      · obtain ⟨ps, e, _⟩ := T.2; exact ⟨ps, e⟩
    have codes : ∀ P, P = 65 ∨ P = 82 → isCodeTable s₁.heap P := fun P hP => by
      rcases hP with rfl | rfl
      · obtain ⟨o, vs, _, _, _, _, _, _, _, a1, a2, a3, a4, _⟩ := codeHd_of_K KX (hK w.params).hd1
        exact ⟨_, o, vs, a1, a2, a3, a4⟩
      · obtain ⟨o, vs, _, _, _, _, _, _, _, a1, a2, a3, a4, _⟩ := codeHd_of_K KX (hK w.params).hd2
        exact ⟨_, o, vs, a1, a2, a3, a4⟩
    refine ⟨.inl ⟨.bool true, .bool true, [], rfl, ?_, ReadsW.bool true, ?_, fun _ => ⟨List.nodup_nil, fun a ha => by cases ha⟩⟩, ⟨fun b o hb => ?_, fun b o hb => ?_⟩, rfl, AllBare.of_eq hg⟩
    · intro cls; rfl
    · exact postW_of rfl (by wtm_val) (by w_fin)
    · by_cases hP : b = 65 ∨ b = 82
      · obtain ⟨ps, e⟩ := tabs b hP
        have e0 : s₁.heap.get? b = some (tabObj #[]) := KT b (by rcases hP with rfl | rfl <;> simp)
        have : o = tabObj #[] := by rw [hb] at e0; injection e0
        subst this
        exact .inr (.inl ⟨codes b hP, rfl, #[], ps, rfl, by simpa using e⟩)
      · exact .inl (st.keep b o (fun k => hP (by
          have k : b ∈ [65, 82] := k
          simpa using k)) hb)
    · by_cases hP : b = 65 ∨ b = 82
      · obtain ⟨ps, e⟩ := tabs b hP; exact ⟨_, e⟩
      · exact ⟨o, st.keep b o (fun k => hP (by
          have k : b ∈ [65, 82] := k
          simpa using k)) hb⟩
end Mine
end
section
open PySem PySem.W PySem.Calls PyProof.Rows
namespace Mine
theorem main : PySem.Challenge.rw_rs0082_02.Holds := by
  obtain ⟨q, loose, XP, K, as, e, d, kwd, hn, hK, h⟩ := head
  exact h (walk_ok hn hK)
end Mine
end
end
theorem PySem.Challenge.cw_rs0082_02_holds : PySem.Challenge.rw_rs0082_02.Holds :=
  Mine.main
