import PyProof.Rows.All
import Wide.All
import OpenK.AllK
import Wide.FinOn
import PySem.Challenge.RW_wv0013_01
set_option Elab.async false
set_option linter.unusedVariables false
set_option linter.unusedSectionVars false
set_option maxHeartbeats 1000000
namespace Mine
theorem nat_abs_lt {a b : Nat} (h : a < b) : (a : Int).natAbs < b := h
local macro_rules | `(tactic| omega) => `(tactic| first
  | with_reducible first | assumption | exact Nat.le_trans (by assumption) (by decide) | exact Nat.lt_of_lt_of_le (by assumption) (by decide) | exact Nat.lt_of_le_of_lt (by assumption) (by decide) | exact Nat.le_trans (Nat.le_of_lt (by assumption)) (by decide) | exact Nat.le_of_eq_of_le (by assumption) (by decide) | exact Nat.lt_of_eq_of_lt (by assumption) (by decide) | exact Nat.lt_of_lt_of_eq (by assumption) (Eq.symm (by assumption)) | exact nat_abs_lt (by assumption) | exact nat_abs_lt (Nat.lt_of_lt_of_le (by assumption) (by decide)) | exact nat_abs_lt (Nat.lt_of_le_of_lt (by assumption) (by decide))
  | lia)
local macro_rules | `(tactic| simp) => `(tactic| exact Nat.le_of_ble_eq_true rfl)
section
open PySem PySem.Calls PyProof.Rows
theorem runs_toks {M : Model} {Γ : Ctx} {p : Pos} {m : Sem Fin} {st : List Frame} {s : Shared} {e : End} {s' : Shared} (h : Runs M Γ p m st s e s') : s.toks ≤ s'.toks := by
  induction h
  all_goals (try simp only [Shared.setGen] at *)
  all_goals first | exact Nat.le_refl _ | assumption | omega

theorem wakes_toks {M : Model} {Γ : Ctx} {p : Pos} {g : Nat} {r : Resume} {s : Shared} {res : GenResult} {s' : Shared} (h : Wakes M Γ p g r s res s') : s.toks ≤ s'.toks := by
  unfold Wakes at h
  split at h
  · exact h.elim
  · split at h
    · obtain ⟨e₁, s₁, hr, _, _, rfl⟩ := h; have q := runs_toks hr; exact q
    · rw [h.2]; exact Nat.le_refl _
    · rw [h.2]; exact Nat.le_refl _
  · obtain ⟨e₁, s₁, hr, _, _, rfl⟩ := h; have q := runs_toks hr; exact q
  · rw [h.2]; exact Nat.le_refl _
  · rw [h.2]; exact Nat.le_refl _

theorem wp_toks {α : Type} (M : Model) (Γ : Ctx) (m : Sem α) : ∀ (Q : α → Pos → Shared → Prop) (E : Value → Pos → Shared → Prop) (p : Pos) (s : Shared), Sem.wp M Γ m Q E p s →
    Sem.wp M Γ m (fun a p s' => s.toks ≤ s'.toks ∧ Q a p s') (fun e p s' => s.toks ≤ s'.toks ∧ E e p s') p s := by
  induction m with
  | pure a => exact fun Q E p s h => ⟨Nat.le_refl _, h⟩
  | raise e => exact fun Q E p s h => ⟨Nat.le_refl _, h⟩
  | unsupported | finish | yield | fork | await | register => exact fun Q E p s h => h
  | rule _ k ih | «at» _ k ih | alloc _ k ih | loadIfAlive _ k ih | point _ k ih | ask k ih | os _ _ k ih | handled _ k ih | newGen _ k ih | stack k ih | thread k ih => exact fun Q E p s h => ih _ _ _ _ _ h
  | fresh k ih => exact fun Q E p s h => Sem.wp_mono M Γ _ (fun a p s' q => ⟨Nat.le_of_succ_le q.1, q.2⟩) (fun a p s' q => ⟨Nat.le_of_succ_le q.1, q.2⟩) _ _ (ih _ _ _ _ _ h)
  | load a _ k ih | genState a k ih => exact fun Q E p s ⟨o, ho, h⟩ => ⟨o, ho, ih _ _ _ _ _ h⟩
  | update a _ f k ih | choose _ _ k ih => exact fun Q E p s ⟨ha, h⟩ => ⟨ha, ih _ _ _ _ _ h⟩
  | call c h g l k ih => exact fun Q E p s ⟨r, s₁, hr, hq⟩ => ⟨r, s₁, hr, Sem.wp_mono M Γ _ (fun a p s' q => ⟨Nat.le_trans (runs_toks hr) q.1, q.2⟩) (fun a p s' q => ⟨Nat.le_trans (runs_toks hr) q.1, q.2⟩) _ _ (ih _ _ _ _ _ hq)⟩
  | resume g r l k ih => exact fun Q E p s ⟨res, s₁, hw, hq⟩ => ⟨res, s₁, hw, Sem.wp_mono M Γ _ (fun a p s' q => ⟨Nat.le_trans (wakes_toks hw) q.1, q.2⟩) (fun a p s' q => ⟨Nat.le_trans (wakes_toks hw) q.1, q.2⟩) _ _ (ih _ _ _ _ _ hq)⟩

/-- the token's count never falls -/
theorem wpAny_toks {α : Type} {M : Model} {A : Around} {m : Sem α} {Q : α → Shared → Prop} {E : Value → Shared → Prop} {s : Shared} (h : wpAny M A m (fun v s' => s.toks ≤ s'.toks → Q v s') (fun e s' => s.toks ≤ s'.toks → E e s') s) : wpAny M A m Q E s := fun Γ p hΓ =>
  Sem.wp_mono M Γ _ (fun a p s' q => q.2 q.1) (fun a p s' q => q.2 q.1) _ _ (wp_toks M Γ m _ _ p s (h Γ p hΓ))
end
section
open PySem PySem.Calls PyProof.Rows
/-- pure values -/
inductive PV where
  | none | bool (b : Bool) | int (i : Int) | float (x : UInt64) | str (x : Str) | strP (P : Nat → Prop) (x : Str) | bytes (b : Array UInt8)
  | list (l : List PV) | lst (l : List PV) | tuple (l : List PV) | dict (hf : Str → Int) (P : Nat → Prop) (l : List (Str × Str))

noncomputable def Le (h h' : Heap) : Prop := ∀ a o, h.get? a = some o → h'.get? a = some o
theorem Le.refl (h : Heap) : Le h h := fun _ _ e => e
theorem Le.trans {h₁ h₂ h₃ : Heap} (x : Le h₁ h₂) (y : Le h₂ h₃) : Le h₁ h₃ := fun a o e => y a o (x a o e)
theorem Le.push (h : Heap) (o : Obj) : Le h (h.push o) := fun _ _ e => Heap.get?_push_of_some o e
theorem get_size (h : Heap) : h.get? h.objs.size = none := by
  cases e : h.get? h.objs.size with
  | none => rfl
  | some o => exact absurd (Heap.lt_size e) (Nat.lt_irrefl _)

/-- addresses that are not to be met in a value's footprint -/
noncomputable abbrev AS := Addr → Prop
noncomputable def Alive (h : Heap) : AS := fun a => ∃ o, h.get? a = some o

inductive DictRows (hf : Str → Int) (P : Nat → Prop) : List DictEntry → List (Str × Str) → Prop
  | nil : DictRows hf P [] []
  | cons {e : DictEntry} {k v : Str} {t u : Tok} {es : List DictEntry} {l : List (Str × Str)} : e.key = .str k t → P t → e.hash = hf k → e.val = .str v u → DictRows hf P es l → DictRows hf P (e :: es) ((k, v) :: l)
noncomputable def DictS (h : Heap) (a : Addr) (hf : Str → Int) (P : Nat → Prop) (l : List (Str × Str)) : Prop :=
  (a == sysModules) = false ∧ (l.map (·.1)).Nodup ∧ ∃ es ep, h.get? a = some { cls := .type "dict", data := .dict es ep } ∧ DictRows hf P es.toList l

mutual
inductive Rep (X : AS) (h : Heap) : Value → PV → Prop
  | none : Rep X h .none .none
  | bool (b : Bool) : Rep X h (.bool b) (.bool b)
  | int (i : Int) (t : Tok) : Rep X h (.int i t) (.int i)
  | float (x : UInt64) (t : Tok) : 0 < t → Rep X h (.float x t) (.float x)
  | str (x : Str) (t : Tok) : Rep X h (.str x t) (.str x)
  | strP {P : Nat → Prop} (x : Str) (t : Tok) : P t → Rep X h (.str x t) (.strP P x)
  | bytes (b : Array UInt8) (t : Tok) : Rep X h (.bytes b t) (.bytes b)
  | list {a : Addr} {vs : List Value} {n : Nat} {l : List PV} : ¬ X a → IsL h a vs.toArray n → RepAll X h vs l → Rep X h (.ref a) (.list l)
  | lst {a : Addr} {vs : List Value} {l : List PV} : ¬ X a → h.IsList a vs.toArray → RepAll X h vs l → Rep X h (.ref a) (.lst l)
  | tuple {a : Addr} {vs : List Value} {n : Nat} {l : List PV} : ¬ X a → IsT h a vs.toArray n → RepAll X h vs l → Rep X h (.ref a) (.tuple l)
  | dict {a : Addr} {hf : Str → Int} {P : Nat → Prop} {l : List (Str × Str)} : ¬ X a → DictS h a hf P l → Rep X h (.ref a) (.dict hf P l)
inductive RepAll (X : AS) (h : Heap) : List Value → List PV → Prop
  | nil : RepAll X h [] []
  | cons {v : Value} {vs : List Value} {p : PV} {ps : List PV} : Rep X h v p → RepAll X h vs ps → RepAll X h (v :: vs) (p :: ps)
end

theorem Rep.boolI {X : AS} {h : Heap} {v : Value} {b : Bool} (r : Rep X h v (.bool b)) : v = .bool b := by cases r; rfl
theorem Rep.intI {X : AS} {h : Heap} {v : Value} {i : Int} (r : Rep X h v (.int i)) : ∃ t, v = .int i t := by cases r; exact ⟨_, rfl⟩
theorem Rep.floatI {X : AS} {h : Heap} {v : Value} {x : UInt64} (r : Rep X h v (.float x)) : ∃ t, v = .float x t ∧ 0 < t := by cases r with | float _ t p => exact ⟨t, rfl, p⟩
theorem Rep.strI {X : AS} {h : Heap} {v : Value} {x : Str} (r : Rep X h v (.str x)) : ∃ t, v = .str x t := by cases r; exact ⟨_, rfl⟩
theorem Rep.strPI {X : AS} {h : Heap} {v : Value} {x : Str} {P : Nat → Prop} (r : Rep X h v (.strP P x)) : ∃ t, v = .str x t ∧ P t := by cases r with | strP _ t p => exact ⟨t, rfl, p⟩
theorem Rep.bytesI {X : AS} {h : Heap} {v : Value} {x : Array UInt8} (r : Rep X h v (.bytes x)) : ∃ t, v = .bytes x t := by cases r; exact ⟨_, rfl⟩
theorem Rep.listI {X : AS} {h : Heap} {v : Value} {l : List PV} (r : Rep X h v (.list l)) : ∃ a, v = .ref a ∧ ∃ (vs : List Value) (n : Nat), ¬ X a ∧ IsL h a vs.toArray n ∧ RepAll X h vs l := by cases r with | list a b c => exact ⟨_, rfl, _, _, a, b, c⟩
theorem Rep.lstI {X : AS} {h : Heap} {v : Value} {l : List PV} (r : Rep X h v (.lst l)) : ∃ a, v = .ref a ∧ ∃ (vs : List Value), ¬ X a ∧ h.IsList a vs.toArray ∧ RepAll X h vs l := by cases r with | lst a b c => exact ⟨_, rfl, _, a, b, c⟩
theorem Rep.tupleI {X : AS} {h : Heap} {v : Value} {l : List PV} (r : Rep X h v (.tuple l)) : ∃ a, v = .ref a ∧ ∃ (vs : List Value) (n : Nat), ¬ X a ∧ IsT h a vs.toArray n ∧ RepAll X h vs l := by cases r with | tuple a b c => exact ⟨_, rfl, _, _, a, b, c⟩
theorem Rep.dictI {X : AS} {h : Heap} {v : Value} {hf : Str → Int} {P : Nat → Prop} {l : List (Str × Str)} (r : Rep X h v (.dict hf P l)) : ∃ a, v = .ref a ∧ ¬ X a ∧ DictS h a hf P l := by cases r with | dict a b => exact ⟨_, rfl, a, b⟩
theorem RepAll.nilI {X : AS} {h : Heap} {vs : List Value} (r : RepAll X h vs []) : vs = [] := by cases r; rfl
theorem RepAll.consI {X : AS} {h : Heap} {vs : List Value} {p : PV} {ps : List PV} (r : RepAll X h vs (p :: ps)) : ∃ v ws, vs = v :: ws ∧ Rep X h v p ∧ RepAll X h ws ps := by cases r with | cons a b => exact ⟨_, _, rfl, a, b⟩

theorem DictS.mono {h h' : Heap} {a : Addr} {hf : Str → Int} {P : Nat → Prop} {l : List (Str × Str)} (D : DictS h a hf P l) (e : ∀ o, h.get? a = some o → h'.get? a = some o) : DictS h' a hf P l :=
  by obtain ⟨n, nd, es, ep, ho, r⟩ := D; exact ⟨n, nd, es, ep, e _ ho, r⟩

theorem DictS.alive {h : Heap} {a : Addr} {hf : Str → Int} {P : Nat → Prop} {l : List (Str × Str)} (D : DictS h a hf P l) : Alive h a := by obtain ⟨_, _, _, _, ho, _⟩ := D; exact ⟨_, ho⟩
/-- a value in another set and another heap, where its objects go over -/
theorem Rep.go {X X' : AS} {h h' : Heap} (f : ∀ a o, ¬ X a → h.get? a = some o → ¬ X' a ∧ h'.get? a = some o) {v : Value} {p : PV} (r : Rep X h v p) : Rep X' h' v p :=
  Rep.rec (motive_1 := fun v p _ => Rep X' h' v p) (motive_2 := fun vs ps _ => RepAll X' h' vs ps) .none (fun b => .bool b) (fun i t => .int i t) (fun x t p => .float x t p) (fun x t => .str x t) (fun x t p => .strP x t p) (fun b t => .bytes b t)
    (fun n i _ r => .list (f _ _ n i).1 (f _ _ n i).2 r) (fun n i _ r => by obtain ⟨o, i, c⟩ := i; exact .lst (f _ _ n i).1 ⟨o, (f _ _ n i).2, c⟩ r) (fun n i _ r => .tuple (f _ _ n i).1 (f _ _ n i).2 r)
    (fun n d => .dict (fun x => d.alive.elim fun o e => (f _ o n e).1 x) (d.mono fun o e => (f _ o n e).2)) .nil (fun _ _ a b => .cons a b) r
/-- what holds of all rows by their length -/
theorem RepAll.ind {X : AS} {h : Heap} {M : List Value → List PV → Prop} (h0 : M [] []) (h1 : ∀ {v vs p ps}, Rep X h v p → RepAll X h vs ps → M vs ps → M (v :: vs) (p :: ps)) {vs : List Value} {ps : List PV} (r : RepAll X h vs ps) : M vs ps := by
  induction ps generalizing vs with
  | nil => obtain rfl := RepAll.nilI r; exact h0
  | cons p ps ih => obtain ⟨v, ws, rfl, a, b⟩ := RepAll.consI r; exact h1 a b (ih b)
theorem RepAll.go {X X' : AS} {h h' : Heap} (f : ∀ a o, ¬ X a → h.get? a = some o → ¬ X' a ∧ h'.get? a = some o) {v : List Value} {p : List PV} (r : RepAll X h v p) : RepAll X' h' v p :=
  RepAll.ind (M := fun v p => RepAll X' h' v p) .nil (fun a _ b => .cons (a.go f) b) r
theorem Rep.keep {X : AS} {h h' : Heap} (k : ∀ a o, ¬ X a → h.get? a = some o → h'.get? a = some o) {v : Value} {p : PV} (r : Rep X h v p) : Rep X h' v p := r.go fun a o n e => ⟨n, k a o n e⟩
theorem RepAll.keep {X : AS} {h h' : Heap} (k : ∀ a o, ¬ X a → h.get? a = some o → h'.get? a = some o) {v : List Value} {p : List PV} (r : RepAll X h v p) : RepAll X h' v p := r.go fun a o n e => ⟨n, k a o n e⟩
theorem Rep.mono {X : AS} {h h' : Heap} {v : Value} {p : PV} (r : Rep X h v p) (k : Le h h') : Rep X h' v p := r.keep fun a o _ e => k a o e
theorem RepAll.mono {X : AS} {h h' : Heap} {v : List Value} {p : List PV} (r : RepAll X h v p) (k : Le h h') : RepAll X h' v p := r.keep fun a o _ e => k a o e

theorem Rep.set {X X' : AS} {h : Heap} (k : ∀ a, X' a → Alive h a → X a) {v : Value} {p : PV} (r : Rep X h v p) : Rep X' h v p := r.go fun a o n e => ⟨fun x => n (k a x ⟨o, e⟩), e⟩
theorem RepAll.set {X X' : AS} {h : Heap} (k : ∀ a, X' a → Alive h a → X a) {v : List Value} {p : List PV} (r : RepAll X h v p) : RepAll X' h v p := r.go fun a o n e => ⟨fun x => n (k a x ⟨o, e⟩), e⟩
theorem RepAll.length {X : AS} {h : Heap} {v : List Value} {p : List PV} (r : RepAll X h v p) : v.length = p.length := RepAll.ind (M := fun v p => v.length = p.length) rfl (fun _ _ b => congrArg Nat.succ b) r
theorem RepAll.append {X : AS} {h : Heap} {v v' : List Value} {p p' : List PV} (r : RepAll X h v p) (r' : RepAll X h v' p') : RepAll X h (v ++ v') (p ++ p') := RepAll.ind (M := fun v p => RepAll X h (v ++ v') (p ++ p')) r' (fun a _ b => .cons a b) r
theorem RepAll.get {X : AS} {h : Heap} {v : List Value} {p : List PV} {i : Nat} {x : PV} (r : RepAll X h v p) (e : p[i]? = some x) : ∃ c, v[i]? = some c ∧ Rep X h c x := by
  refine RepAll.ind (M := fun v p => ∀ i : Nat, p[i]? = some x → ∃ c, v[i]? = some c ∧ Rep X h c x) (fun i e => by rw [List.getElem?_nil] at e; nomatch e) (fun a _ b i e => ?_) r i e
  cases i with
  | zero => exact ⟨_, rfl, Option.some.inj e ▸ a⟩
  | succ i => rw [List.getElem?_cons_succ] at e ⊢; exact b i e
theorem RepAll.get' {X : AS} {h : Heap} {v : List Value} {p : List PV} {i : Nat} {c : Value} (r : RepAll X h v p) (e : v[i]? = some c) : ∃ x, p[i]? = some x ∧ Rep X h c x := by
  refine RepAll.ind (M := fun v p => ∀ i : Nat, v[i]? = some c → ∃ x, p[i]? = some x ∧ Rep X h c x) (fun i e => by rw [List.getElem?_nil] at e; nomatch e) (fun a _ b i e => ?_) r i e
  cases i with
  | zero => exact ⟨_, rfl, Option.some.inj e ▸ a⟩
  | succ i => rw [List.getElem?_cons_succ] at e ⊢; exact b i e
theorem len_succ {α : Type} {l : List α} {n : Nat} (h : l.length = n + 1) : ∃ a t, l = a :: t ∧ t.length = n := by cases l with | nil => nomatch h | cons a t => exact ⟨a, t, rfl, Nat.succ.inj h⟩
theorem len1 {α : Type} {l : List α} (h : l.length = 1) : ∃ a, l = [a] := by
  obtain ⟨a, t, rfl, q⟩ := len_succ h
  exact ⟨a, by rw [List.length_eq_zero_iff.mp q]⟩
theorem len2 {α : Type} {l : List α} (h : l.length = 2) : ∃ a b, l = [a, b] := by
  obtain ⟨a, t, rfl, q⟩ := len_succ h
  obtain ⟨b, rfl⟩ := len1 q
  exact ⟨a, b, rfl⟩
theorem len3 {α : Type} {l : List α} (h : l.length = 3) : ∃ a b c, l = [a, b, c] := by
  obtain ⟨a, t, rfl, q⟩ := len_succ h
  obtain ⟨b, c, rfl⟩ := len2 q
  exact ⟨a, b, c, rfl⟩
theorem len4 {α : Type} {l : List α} (h : l.length = 4) : ∃ a b c d, l = [a, b, c, d] := by
  obtain ⟨a, t, rfl, q⟩ := len_succ h
  obtain ⟨b, c, d, rfl⟩ := len3 q
  exact ⟨a, b, c, d, rfl⟩

theorem six_lt {l : Nat} (h : l ∈ [5, 4, 3, 2, 1, 0]) : l < 6 := (by decide : ∀ m ∈ [5, 4, 3, 2, 1, 0], m < 6) l h
/-- values without a footprint -/
noncomputable def PV.flat : PV → Bool
  | .list _ | .lst _ | .tuple _ | .dict _ _ _ => false
  | _ => true
theorem Rep.flat {X X' : AS} {h h' : Heap} {v : Value} {p : PV} (r : Rep X h v p) (f : p.flat = true) : Rep X' h' v p := by
  cases r with
  | none => exact .none
  | bool b => exact .bool b
  | int i t => exact .int i t
  | float x t p => exact .float x t p
  | str x t => exact .str x t
  | strP x t p => exact .strP x t p
  | bytes b t => exact .bytes b t
  | list _ _ _ => exact nomatch (show false = true from f)
  | lst _ _ _ => exact nomatch (show false = true from f)
  | tuple _ _ _ => exact nomatch (show false = true from f)
  | dict _ _ => exact nomatch (show false = true from f)
theorem RepAll.flat {X X' : AS} {h h' : Heap} {v : List Value} {p : List PV} (r : RepAll X h v p) (f : p.all PV.flat = true) : RepAll X' h' v p := by
  refine RepAll.ind (M := fun v p => p.all PV.flat = true → RepAll X' h' v p) (fun _ => .nil) (fun a _ b f => ?_) r f
  rw [List.all_cons, Bool.and_eq_true] at f
  exact .cons (a.flat f.1) (b f.2)

/-- room in the frames about -/
structure Room (A : Around) (n : Nat) : Prop where
  handled : A.handled = none
  depth : A.depth + n < 900
  units : A.units + 10 * n < 9000
theorem Room.less {A : Around} {n m : Nat} (r : Room A n) (h : m ≤ n) : Room A m := ⟨r.handled, by have := r.depth; omega, by have := r.units; omega⟩
theorem Room.deeper {A : Around} {n : Nat} (r : Room A (n + 1)) (env : Env) : Room (A.deeper env) n :=
  ⟨r.handled, by have := r.depth; show A.depth + 1 + n < 900; omega, by have := r.units; show A.units + 3 + 10 * n < 9000; omega⟩
theorem Room.lim {A : Around} {n : Nat} (r : Room A n) : A.depth < recursionLimit := by have := r.depth; show A.depth < 1000; omega
theorem Room.cline {A : Around} {n : Nat} (r : Room A n) : A.units < cLine := by have := r.units; show A.units < 9900; omega

noncomputable def IsFn (mg : Str → Option Value) (h : Heap) (d : DefRec) : Prop :=
  ∃ a o pm code doc, mg d.name = some (.ref a) ∧ h.get? a = some o ∧ o.data = .func (docDef d.name d.params d.body d.scope pm code doc) ∧ h.CodeRec code d.name
theorem IsFn.mono {mg : Str → Option Value} {h h' : Heap} {d : DefRec} (F : IsFn mg h d) (k : Le h h') : IsFn mg h' d :=
  by obtain ⟨a, o, pm, code, doc, e, ho, hd, hc⟩ := F; exact ⟨a, o, pm, code, doc, e, k _ _ ho, hd, hc.keeps k⟩

noncomputable def usedBuiltins : List (Str × Value) :=
  [("range", .type "range"), ("len", .builtin "len"), ("sum", .builtin "sum"), ("max", .builtin "max"), ("min", .builtin "min"), ("enumerate", .type "enumerate"),
   ("abs", .builtin "abs"), ("int", .type "int"), ("divmod", .builtin "divmod"), ("bytes", .type "bytes"), ("ord", .builtin "ord"), ("isinstance", .builtin "isinstance"),
   ("float", .type "float"), ("sorted", .builtin "sorted"), ("list", .type "list"), ("str", .type "str"), ("ValueError", .type "ValueError")]
/-- is this builtin, or this type, in the list -/
noncomputable def hasB (f : Str) (id : String) : Bool := usedBuiltins.any fun p => p.1 == f && (match p.2 with | .builtin i => i == id | _ => false)
noncomputable def hasT (f : Str) (id : String) : Bool := usedBuiltins.any fun p => p.1 == f && (match p.2 with | .type i => i == id | _ => false)
theorem used_b {f : Str} {id : String} (h : hasB f id = true) : (f, Value.builtin id) ∈ usedBuiltins := by
  obtain ⟨⟨g, v⟩, hp, hq⟩ := List.any_eq_true.mp h
  rw [Bool.and_eq_true] at hq
  obtain ⟨h1, h2⟩ := hq
  obtain rfl := eq_of_beq h1
  cases v with
  | builtin i => obtain rfl := eq_of_beq h2; exact hp
  | _ => nomatch h2
theorem used_t {f : Str} {id : String} (h : hasT f id = true) : (f, Value.type id) ∈ usedBuiltins := by
  obtain ⟨⟨g, v⟩, hp, hq⟩ := List.any_eq_true.mp h
  rw [Bool.and_eq_true] at hq
  obtain ⟨h1, h2⟩ := hq
  obtain rfl := eq_of_beq h1
  cases v with
  | type i => obtain rfl := eq_of_beq h2; exact hp
  | _ => nomatch h2


structure Base (ds : List DefRec) (mg mb : Str → Option Value) (h : Heap) : Prop where
  g : h.Ns mainGlobals mg
  b : h.Ns builtinsNs mb
  lim : h.NoLimit
  nb : NoneBooked h
  fn : ∀ d ∈ ds, IsFn mg h d
  bi : ∀ p ∈ usedBuiltins, mg p.1 = none ∧ mb p.1 = some p.2
theorem Base.mono {ds : List DefRec} {mg mb : Str → Option Value} {h h' : Heap} (B : Base ds mg mb h) (k : Le h h') : Base ds mg mb h' :=
  ⟨B.g.keeps k, B.b.keeps k, B.lim.keeps k, let ⟨mc, e, q⟩ := B.nb; ⟨mc, e.keeps k, q⟩, fun d hd => (B.fn d hd).mono k, B.bi⟩

/-- what every judgement leans on -/
structure Wd where
  prog : Program
  w : World
  ds : List DefRec
  mg : Str → Option Value
  mb : Str → Option Value
  lo : Nat
noncomputable abbrev Wd.M (W : Wd) : Model := model W.prog W.w

structure Ok (W : Wd) (A : Around) (n : Nat) (X : AS) (h : Heap) : Prop where
  room : Room A n
  base : Base W.ds W.mg W.mb h
  alive : ∀ a, X a → ∃ b, a ≤ b ∧ Alive h b
theorem Alive.mono {h h' : Heap} {a : Addr} (x : Alive h a) (k : Le h h') : Alive h' a := let ⟨o, e⟩ := x; ⟨o, k _ _ e⟩
theorem Ok.mono {W : Wd} {A : Around} {n : Nat} {X : AS} {h h' : Heap} (O : Ok W A n X h) (k : Le h h') : Ok W A n X h' := ⟨O.room, O.base.mono k, fun a x => let ⟨b, hb, hl⟩ := O.alive a x; ⟨b, hb, hl.mono k⟩⟩
theorem Ok.new {W : Wd} {A : Around} {n : Nat} {X : AS} {h : Heap} (O : Ok W A n X h) : ¬ X h.objs.size := fun x => by
  obtain ⟨b, hb, o, e⟩ := O.alive _ x
  exact absurd (Heap.lt_size e) (Nat.not_lt.mpr hb)
theorem Ok.less {W : Wd} {A : Around} {n m : Nat} {X : AS} {h : Heap} (O : Ok W A n X h) (k : m ≤ n) : Ok W A m X h := ⟨O.room.less k, O.base, O.alive⟩

/-- a later state: what there was is kept, and the tokens' count is not below lo -/
structure LeW (lo : Nat) (h : Heap) (s : Shared) : Prop where
  le : Le h s.heap
  lo : lo ≤ s.toks
theorem LeW.trans {lo : Nat} {h : Heap} {s s' : Shared} (a : LeW lo h s) (b : LeW lo s.heap s') : LeW lo h s' := ⟨a.le.trans b.le, b.lo⟩
theorem LeW.refl {lo : Nat} {s : Shared} (h : lo ≤ s.toks) : LeW lo s.heap s := ⟨.refl _, h⟩
theorem LeW.more {lo : Nat} {h h' : Heap} {tk : Nat} {s : Shared} (a : LeW lo h { s with heap := h', toks := tk }) {h'' : Heap} (b : Le h' h'') : LeW lo h { s with heap := h'', toks := tk } := ⟨a.le.trans b, a.lo⟩
structure OkS (W : Wd) (A : Around) (n : Nat) (X : AS) (s : Shared) : Prop where
  ok : Ok W A n X s.heap
  lo : W.lo ≤ s.toks
theorem Ok.at {W : Wd} {A : Around} {n : Nat} {X : AS} {h : Heap} {s : Shared} (O : Ok W A n X h) (k : LeW W.lo h s) : OkS W A n X s := ⟨O.mono k.le, k.lo⟩
theorem OkS.mono {W : Wd} {A : Around} {n : Nat} {X : AS} {s s' : Shared} (O : OkS W A n X s) (k : LeW W.lo s.heap s') : OkS W A n X s' := O.ok.at k
theorem OkS.room {W : Wd} {A : Around} {n : Nat} {X : AS} {s : Shared} (O : OkS W A n X s) : Room A n := O.ok.room
theorem OkS.base {W : Wd} {A : Around} {n : Nat} {X : AS} {s : Shared} (O : OkS W A n X s) : Base W.ds W.mg W.mb s.heap := O.ok.base
theorem OkS.alive {W : Wd} {A : Around} {n : Nat} {X : AS} {s : Shared} (O : OkS W A n X s) : ∀ a, X a → ∃ b, a ≤ b ∧ Alive s.heap b := O.ok.alive
theorem OkS.new {W : Wd} {A : Around} {n : Nat} {X : AS} {s : Shared} (O : OkS W A n X s) : ¬ X s.heap.objs.size := O.ok.new
theorem OkS.less {W : Wd} {A : Around} {n m : Nat} {X : AS} {s : Shared} (O : OkS W A n X s) (k : m ≤ n) : OkS W A m X s := ⟨O.ok.less k, O.lo⟩

noncomputable def Post (W : Wd) (X : AS) (s : Shared) (v : PV) (Q : Value → Shared → Prop) : Prop := ∀ cv h' tk', LeW W.lo s.heap { s with heap := h', toks := tk' } → Rep X h' cv v → Q cv { s with heap := h', toks := tk' }
theorem Post.le {W : Wd} {X : AS} {s : Shared} {v : PV} {Q : Value → Shared → Prop} (p : Post W X s v Q) {h : Heap} {tk : Nat} (k : LeW W.lo s.heap { s with heap := h, toks := tk }) : Post W X { s with heap := h, toks := tk } v Q :=
  fun cv h' tk' k' r => p cv h' tk' (k.trans k') r
theorem Post.at {W : Wd} {X : AS} {s : Shared} {v : PV} {Q : Value → Shared → Prop} (p : Post W X s v Q) {cv : Value} {tk : Nat} (lo : W.lo ≤ tk) (r : Rep X s.heap cv v) : Q cv { s with toks := tk } := p cv s.heap tk ⟨.refl _, lo⟩ r
theorem Post.at1 {W : Wd} {X : AS} {s : Shared} {v : PV} {Q : Value → Shared → Prop} (p : Post W X s v Q) (lo : W.lo ≤ s.toks) {cv : Value} (r : Rep X s.heap cv v) : Q cv { s with toks := s.toks + 1 } := p.at (Nat.le_succ_of_le lo) r
theorem Post.here {W : Wd} {X : AS} {s : Shared} {v : PV} {Q : Value → Shared → Prop} (p : Post W X s v Q) (lo : W.lo ≤ s.toks) {cv : Value} (r : Rep X s.heap cv v) : Q cv s := p cv s.heap s.toks (.refl lo) r

/-- an operation on values -/
noncomputable def Op (W : Wd) (n : Nat) (f : List Value → Sem Value) (args : List PV) (v : PV) : Prop :=
  ∀ A X s cvs (Q : Value → Shared → Prop) (E : Value → Shared → Prop), OkS W A n X s → RepAll X s.heap cvs args → Post W X s v Q → wpAny W.M A (f cvs) Q E s
noncomputable def Op1 (W : Wd) (n : Nat) (f : Value → Sem Value) (a v : PV) : Prop :=
  ∀ A X s ca (Q : Value → Shared → Prop) (E : Value → Shared → Prop), OkS W A n X s → Rep X s.heap ca a → Post W X s v Q → wpAny W.M A (f ca) Q E s
noncomputable def Op2 (W : Wd) (n : Nat) (f : Value → Value → Sem Value) (a b v : PV) : Prop :=
  ∀ A X s ca cb (Q : Value → Shared → Prop) (E : Value → Shared → Prop), OkS W A n X s → Rep X s.heap ca a → Rep X s.heap cb b → Post W X s v Q → wpAny W.M A (f ca cb) Q E s

/-- a name's value in a frame -/
noncomputable def Loads (env : Env) (h : Heap) (x : Str) (cv : Value) : Prop :=
  (env.kindOf x = some .local ∧ ∃ ml, h.Ns env.locals ml ∧ ml x = some cv) ∨
  ((env.kindOf x = some .cell ∨ env.kindOf x = some .free) ∧ ∃ c, env.cells.lookup x = some c ∧ h.IsCell c (some cv))
theorem Loads.mono {env : Env} {h h' : Heap} {x : Str} {cv : Value} (l : Loads env h x cv) (k : Le h h') : Loads env h' x cv := by
  rcases l with ⟨e, ml, hn, hv⟩ | ⟨e, c, hc, hv⟩
  · exact .inl ⟨e, ml, hn.keeps k, hv⟩
  · exact .inr ⟨e, c, hc, hv.keeps k⟩
theorem Loads.load {M : Model} {A : Around} {E : Value → Shared → Prop} {s : Shared} {env : Env} {x : Str} {cv : Value} {Q : Value → Shared → Prop} (l : Loads env s.heap x cv) (hk : env.scope.kind = .function)
    (hd : (x == ("__classdict__" : Str)) = false) (h : Q cv s) : wpAny M A (loadName env x) Q E s := by
  rcases l with ⟨e, ml, hn, hv⟩ | ⟨e | e, c, hc, hv⟩
  · exact wpAny_loadName_local hk e hn hv h
  · exact wpAny_loadName_cell hk e hc hv h
  · exact wpAny_loadName_free hk e hc hv h hd

noncomputable def VarIs (X : AS) (env : Env) (h : Heap) (x : Str) (v : PV) : Prop := ∃ cv, Loads env h x cv ∧ Rep X h cv v
theorem VarIs.mono {X : AS} {env : Env} {h h' : Heap} {x : Str} {v : PV} (l : VarIs X env h x v) (k : Le h h') : VarIs X env h' x v := let ⟨cv, a, b⟩ := l; ⟨cv, a.mono k, b.mono k⟩

/-- a store's entry, found by the name as it is written -/
inductive Look : List (Str × PV) → Str → PV → Prop
  | head {x : Str} {v : PV} {r : List (Str × PV)} : Look ((x, v) :: r) x v
  | tail {x y : Str} {v u : PV} {r : List (Str × PV)} : Look r x v → Look ((y, u) :: r) x v

/-- an expression's surroundings: the frame, its names, the store -/
structure Cx (W : Wd) (A : Around) (n : Nat) (X : AS) (env : Env) (h : Heap) (names : List (Str × NameKind)) (ρ : List (Str × PV)) : Prop where
  ok : Ok W A n X h
  kind : env.scope.kind = .function
  names : env.scope.names = names
  globals : env.globals = mainGlobals
  builtins : env.builtins = builtinsNs
  vars : ∀ x v, Look ρ x v → VarIs X env h x v
  cells : ∀ x, env.kindOf x = some .cell ∨ env.kindOf x = some .free → ∃ c, env.cells.lookup x = some c ∧ Alive h c
theorem Cx.mono {W : Wd} {A : Around} {n : Nat} {X : AS} {env : Env} {h h' : Heap} {names : List (Str × NameKind)} {ρ : List (Str × PV)} (C : Cx W A n X env h names ρ) (k : Le h h') : Cx W A n X env h' names ρ :=
  ⟨C.ok.mono k, C.kind, C.names, C.globals, C.builtins, fun x v l => (C.vars x v l).mono k, fun x q => let ⟨c, e, a⟩ := C.cells x q; ⟨c, e, a.mono k⟩⟩

noncomputable def Ev (W : Wd) (A : Around) (X : AS) (env : Env) (h : Heap) (e : Expr) (v : PV) : Prop :=
  ∀ (s : Shared) (Q : Value → Shared → Prop) (E : Value → Shared → Prop), LeW W.lo h s → Post W X s v Q → wpAny W.M A (eval e env) Q E s
/-- a test -/
noncomputable def EvB (W : Wd) (A : Around) (env : Env) (h : Heap) (e : Expr) (b : Bool) : Prop :=
  ∀ (s : Shared) (Q : Bool → Shared → Prop) (E : Value → Shared → Prop), LeW W.lo h s → (∀ h' tk', LeW W.lo s.heap { s with heap := h', toks := tk' } → Q b { s with heap := h', toks := tk' }) → wpAny W.M A (isTrue e env (eval e env)) Q E s

section
variable {W : Wd} {A : Around} {n : Nat} {X : AS} {env : Env} {h : Heap} {names : List (Str × NameKind)} {ρ : List (Str × PV)}

theorem Ev.cast {e : Expr} {v v' : PV} (x : Ev W A X env h e v) (q : v = v') : Ev W A X env h e v' := q ▸ x

theorem Ev.name (C : Cx W A n X env h names ρ) {x : Str} {pos : Pos} {v : PV} (l : Look ρ x v) (hd : (x == ("__debug__" : Str)) = false := by first | decide +kernel | (dsimp only; decide +kernel)) (hc : (x == ("__classdict__" : Str)) = false := by first | decide +kernel | (dsimp only; decide +kernel)) :
    Ev W A X env h (.Name x pos) v := fun s Q E k p => by
  obtain ⟨cv, l, r⟩ := C.vars x v l
  exact wpAny_Name ((l.mono k.le).load C.kind hc (p.here k.lo (r.mono k.le))) hd

theorem Ev.int {i : Int} {kd : Nat} {pos : Pos} : Ev W A X env h (.Constant (.int i) kd pos) (.int i) := fun _ _ _ k p => wpAny_Constant_int (p.at1 k.lo (.int _ _))
theorem Ev.strP {P : Nat → Prop} (hP : ∀ t, W.lo ≤ t → P t) {x : Str} {kd : Nat} {pos : Pos} : Ev W A X env h (.Constant (.str x) kd pos) (.strP P x) := fun _ _ _ k p => Constant_str (p.at1 k.lo (.strP _ _ (hP _ k.lo)))
theorem Rep.unP {P : Nat → Prop} {x : Str} {cv : Value} (r : Rep X h cv (.strP P x)) : Rep X h cv (.str x) := by cases r; exact .str _ _
theorem Ev.unP {P : Nat → Prop} {x : Str} {e : Expr} (he : Ev W A X env h e (.strP P x)) : Ev W A X env h e (.str x) := fun s Q E k p => he s Q E k fun cv h' tk' k' r => p cv h' tk' k' r.unP
theorem Ev.str {x : Str} {k : Nat} {pos : Pos} : Ev W A X env h (.Constant (.str x) k pos) (.str x) := fun _ _ _ k p => Constant_str (p.at1 k.lo (.str _ _))
theorem Ev.bool {b : Bool} {k : Nat} {pos : Pos} : Ev W A X env h (.Constant (.bool b) k pos) (.bool b) := fun _ _ _ k p => wpAny_pure (p.here k.lo (.bool _))
theorem Ev.cnone {k : Nat} {pos : Pos} : Ev W A X env h (.Constant .none k pos) .none := fun _ _ _ k p => wpAny_pure (p.here k.lo .none)
theorem Ev.float {x : UInt64} {k : Nat} {pos : Pos} (h0 : 0 < W.lo := by assumption) : Ev W A X env h (.Constant (.float x) k pos) (.float x) := fun s Q E k p => by
  have : Q (.float x s.toks) { s with toks := s.toks + 1 } := p.at1 k.lo (.float _ _ (Nat.lt_of_lt_of_le h0 k.lo))
  exact fun _ _ _ => this
theorem Ev.bytes {x : List UInt8} {k : Nat} {pos : Pos} : Ev W A X env h (.Constant (.bytes x) k pos) (.bytes x.toArray) := fun s Q E k p => by
  have : Q (.bytes x.toArray s.toks) { s with toks := s.toks + 1 } := p.at1 k.lo (.bytes _ _)
  exact fun _ _ _ => this

theorem Ev.bin (C : Cx W A n X env h names ρ) {l r : Expr} {op : Operator} {pos : Pos} {a b v : PV} (hl : Ev W A X env h l a) (hr : Ev W A X env h r b) (ho : Op2 W n (binaryOp op) a b v) :
    Ev W A X env h (.BinOp l op r pos) v := fun s Q E k p =>
  wpAny_BinOp (hl s _ E k fun ca h₁ tk₁ k₁ ra => hr _ _ E (k.trans k₁) fun cb h₂ tk₂ k₂ rb =>
    ho A X _ ca cb Q E (C.ok.at ((k.trans k₁).trans k₂)) (ra.mono k₂.le) rb (p.le (k₁.trans k₂)))

theorem Ev.cmp (C : Cx W A n X env h names ρ) {l r : Expr} {op : CmpOp} {pos : Pos} {a b v : PV} (hl : Ev W A X env h l a) (hr : Ev W A X env h r b) (ho : Op2 W n (compareOp op) a b v)
    (hm : behindInMarks op r = false := by with_unfolding_all rfl) : Ev W A X env h (.Compare l [op] [r] pos) v := fun s Q E k p =>
  wpAny_Compare1 (hl s _ E k fun ca h₁ tk₁ k₁ ra => hr _ _ E (k.trans k₁) fun cb h₂ tk₂ k₂ rb =>
    ho A X _ ca cb Q E (C.ok.at ((k.trans k₁).trans k₂)) (ra.mono k₂.le) rb (p.le (k₁.trans k₂))) hm

theorem EvB.cmp (C : Cx W A n X env h names ρ) {l r : Expr} {op : CmpOp} {pos : Pos} {a b : PV} {c : Bool} (hl : Ev W A X env h l a) (hr : Ev W A X env h r b) (ho : Op2 W n (compareOp op) a b (.bool c))
    (hm : behindInMarks op r = false := by with_unfolding_all rfl) : EvB W A env h (.Compare l [op] [r] pos) c := fun s Q E k p =>
  wpAny_isTrue_Compare1 (hl s _ E k fun ca h₁ tk₁ k₁ ra => hr _ _ E (k.trans k₁) fun cb h₂ tk₂ k₂ rb =>
    ho A X _ ca cb _ E (C.ok.at ((k.trans k₁).trans k₂)) (ra.mono k₂.le) rb fun cv h₃ tk₃ k₃ r₃ => by
      obtain rfl := Rep.boolI r₃
      exact wpAny_truthy_bool (p _ _ (k₁.trans (k₂.trans k₃)))) hm

theorem wpAny_IfExp {M : Model} {E : Value → Shared → Prop} {s : Shared} {t b o : Expr} {pos : Pos} {Q : Value → Shared → Prop}
    (h : wpAny M A (isTrue t env (eval t env)) (fun c s₁ => if c then wpAny M A (eval b env) Q E s₁ else wpAny M A (eval o env) Q E s₁) E s) :
    wpAny M A (eval (.IfExp t b o pos) env) Q E s := by
  rw [arm_eval_IfExp]
  refine wpAny_bind (wpAny_mono h (fun c s₁ h₁ => ?_) fun _ _ e => e)
  cases c <;> exact h₁

theorem Ev.ite {t b o : Expr} {pos : Pos} {c : Bool} {v : PV} (ht : EvB W A env h t c) (hb : c = true → Ev W A X env h b v) (ho : c = false → Ev W A X env h o v) :
    Ev W A X env h (.IfExp t b o pos) v := fun s Q E k p => by
  refine wpAny_IfExp (ht s _ E k fun h₁ tk₁ k₁ => ?_)
  cases c with
  | true => exact hb rfl _ Q E (k.trans k₁) (p.le k₁)
  | false => exact ho rfl _ Q E (k.trans k₁) (p.le k₁)
end
end
section
open PySem PySem.Calls PyProof.Rows
section Ints
variable {W : Wd} {n : Nat} {a b : Int} {x y : Nat}

theorem intBits_le {a : Int} {k : Nat} (h : a.natAbs < 2 ^ k) : Builtin.Int.intBits a ≤ k := by
  unfold Builtin.Int.intBits
  split
  · exact Nat.zero_le _
  · rename_i hz
    have h0 : a.natAbs ≠ 0 := fun e => hz (by simpa using e)
    exact (Nat.log2_lt h0).mpr h

theorem Op2.add_int : Op2 W n (binaryOp .Add) (.int a) (.int b) (.int (a + b)) := fun A X s ca cb Q E O ra rb p => by
  obtain ⟨_, rfl⟩ := Rep.intI ra; obtain ⟨_, rfl⟩ := Rep.intI rb; exact PyProof.Rows.add_int (p.at1 O.lo (.int _ _))
theorem Op2.sub_int : Op2 W n (binaryOp .Sub) (.int a) (.int b) (.int (a - b)) := fun A X s ca cb Q E O ra rb p => by
  obtain ⟨_, rfl⟩ := Rep.intI ra; obtain ⟨_, rfl⟩ := Rep.intI rb; exact PyProof.Rows.sub_int (p.at1 O.lo (.int _ _))
theorem Op2.mul_int (h : a.natAbs < 2 ^ 64 ∨ b.natAbs < 2 ^ 64) : Op2 W n (binaryOp .Mult) (.int a) (.int b) (.int (a * b)) := fun A X s ca cb Q E O ra rb p => by
  obtain ⟨_, rfl⟩ := Rep.intI ra; obtain ⟨_, rfl⟩ := Rep.intI rb
  exact PySem.P.mul_int (p.at1 O.lo (.int _ _)) (h.elim (fun h => .of_left (intBits_le h)) fun h => .of_right (intBits_le h))
theorem Op2.fdiv_int (h : 0 < b) (hs : b < 1073741824) : Op2 W n (binaryOp .FloorDiv) (.int a) (.int b) (.int (a / b)) := fun A X s ca cb Q E O ra rb p => by
  obtain ⟨_, rfl⟩ := Rep.intI ra; obtain ⟨_, rfl⟩ := Rep.intI rb
  refine floordiv_int (by omega) ?_ (.inl (PyProof.noPylong_small (by omega)))
  rw [Int.fdiv_eq_ediv_of_nonneg _ (by omega)]
  exact p.at1 O.lo (.int _ _)
theorem Op2.mod_int (h : 0 < b) : Op2 W n (binaryOp .Mod) (.int a) (.int b) (.int (a % b)) := fun A X s ca cb Q E O ra rb p => by
  obtain ⟨_, rfl⟩ := Rep.intI ra; obtain ⟨_, rfl⟩ := Rep.intI rb
  refine PyProof.Rows.mod_int (by omega) ?_
  rw [Int.fmod_eq_emod_of_nonneg _ (by omega)]
  exact p.at1 O.lo (.int _ _)
theorem Op2.shl_int (h : 0 ≤ b) (hb : b < 1000) (ha : a.natAbs < 2 ^ 1000) : Op2 W n (binaryOp .LShift) (.int a) (.int b) (.int (a * 2 ^ b.toNat)) := fun A X s ca cb Q E O ra rb p => by
  obtain ⟨_, rfl⟩ := Rep.intI ra; obtain ⟨_, rfl⟩ := Rep.intI rb
  have := intBits_le ha
  exact lshift_int h (by omega) (p.at1 O.lo (.int _ _))
theorem Op2.shr_int (h : 0 ≤ b) : Op2 W n (binaryOp .RShift) (.int a) (.int b) (.int (a / 2 ^ b.toNat)) := fun A X s ca cb Q E O ra rb p => by
  obtain ⟨_, rfl⟩ := Rep.intI ra; obtain ⟨_, rfl⟩ := Rep.intI rb
  refine rshift_int h ?_
  rw [Int.fdiv_eq_ediv_of_nonneg _ (by have : (0:Int) < 2 ^ b.toNat := Int.pow_pos (by decide); omega)]
  exact p.at1 O.lo (.int _ _)
theorem Op2.and_int : Op2 W n (binaryOp .BitAnd) (.int a) (.int b) (.int (Builtin.bitAnd a b)) := fun A X s ca cb Q E O ra rb p => by
  obtain ⟨_, rfl⟩ := Rep.intI ra; obtain ⟨_, rfl⟩ := Rep.intI rb; exact PyProof.Rows.and_int (p.at1 O.lo (.int _ _))
theorem Op2.or_int : Op2 W n (binaryOp .BitOr) (.int a) (.int b) (.int (Builtin.bitOr a b)) := fun A X s ca cb Q E O ra rb p => by
  obtain ⟨_, rfl⟩ := Rep.intI ra; obtain ⟨_, rfl⟩ := Rep.intI rb; exact PyProof.Rows.or_int (p.at1 O.lo (.int _ _))
theorem Op2.xor_int : Op2 W n (binaryOp .BitXor) (.int a) (.int b) (.int (Builtin.bitXor a b)) := fun A X s ca cb Q E O ra rb p => by
  obtain ⟨_, rfl⟩ := Rep.intI ra; obtain ⟨_, rfl⟩ := Rep.intI rb; exact PyProof.Rows.xor_int (p.at1 O.lo (.int _ _))
theorem Op2.pow_int (h : 0 ≤ b) (hs : (Builtin.Int.intBits a : Int) * b ≤ 2 ^ 27) : Op2 W n (binaryOp .Pow) (.int a) (.int b) (.int (a ^ b.toNat)) := fun A X s ca cb Q E O ra rb p => by
  obtain ⟨_, rfl⟩ := Rep.intI ra; obtain ⟨_, rfl⟩ := Rep.intI rb; exact PyProof.Rows.pow_int h hs (p.at1 O.lo (.int _ _))

theorem Op2.eq_int : Op2 W n (compareOp .Eq) (.int a) (.int b) (.bool (a == b)) := fun A X s ca cb Q E O ra rb p => by
  obtain ⟨_, rfl⟩ := Rep.intI ra; obtain ⟨_, rfl⟩ := Rep.intI rb; exact PyProof.Rows.eq_int (p.here O.lo (.bool _))
theorem Op2.ne_int : Op2 W n (compareOp .NotEq) (.int a) (.int b) (.bool (a != b)) := fun A X s ca cb Q E O ra rb p => by
  obtain ⟨_, rfl⟩ := Rep.intI ra; obtain ⟨_, rfl⟩ := Rep.intI rb; exact PyProof.Rows.ne_int (p.here O.lo (.bool _))
theorem Op2.gt_int : Op2 W n (compareOp .Gt) (.int a) (.int b) (.bool (decide (b < a))) := fun A X s ca cb Q E O ra rb p => by
  obtain ⟨_, rfl⟩ := Rep.intI ra; obtain ⟨_, rfl⟩ := Rep.intI rb; exact PyProof.Rows.gt_int (p.here O.lo (.bool _))

-- the same for naturals
theorem Op2.add_nat : Op2 W n (binaryOp .Add) (.int (x : Nat)) (.int (y : Nat)) (.int ((x + y : Nat) : Int)) := by
  have := @Op2.add_int W n x y
  rwa [← Int.natCast_add] at this
theorem Op2.mul_nat (h : x < 2 ^ 64 ∨ y < 2 ^ 64) : Op2 W n (binaryOp .Mult) (.int (x : Nat)) (.int (y : Nat)) (.int ((x * y : Nat) : Int)) := by
  have := @Op2.mul_int W n x y (by simpa using h)
  rwa [← Int.natCast_mul] at this
theorem Op2.fdiv_nat (h : 0 < y) (hs : y < 1073741824) : Op2 W n (binaryOp .FloorDiv) (.int (x : Nat)) (.int (y : Nat)) (.int ((x / y : Nat) : Int)) := by
  have := @Op2.fdiv_int W n x y (by omega) (by omega)
  rwa [← Int.natCast_ediv] at this
theorem Op2.mod_nat (h : 0 < y) : Op2 W n (binaryOp .Mod) (.int (x : Nat)) (.int (y : Nat)) (.int ((x % y : Nat) : Int)) := by
  have := @Op2.mod_int W n x y (by omega)
  rwa [← Int.natCast_emod] at this
theorem Op2.shl_nat (hb : y < 1000) (ha : x < 2 ^ 1000) : Op2 W n (binaryOp .LShift) (.int (x : Nat)) (.int (y : Nat)) (.int ((x <<< y : Nat) : Int)) := by
  have := @Op2.shl_int W n x y (by omega) (by omega) (by simpa using ha)
  rw [Nat.shiftLeft_eq]
  simpa using this
theorem Op2.shr_nat : Op2 W n (binaryOp .RShift) (.int (x : Nat)) (.int (y : Nat)) (.int ((x >>> y : Nat) : Int)) := by
  have := @Op2.shr_int W n x y (by omega)
  rw [Nat.shiftRight_eq_div_pow]
  simpa using this
theorem bitAnd_nat : Builtin.bitAnd (x : Int) (y : Int) = ((x &&& y : Nat) : Int) := by
  unfold Builtin.bitAnd
  have h1 : decide ((0:Int) ≤ (x : Int)) = true := decide_eq_true (by omega)
  have h2 : decide ((0:Int) ≤ (y : Int)) = true := decide_eq_true (by omega)
  rw [h1, h2]
  rfl
theorem bitNot_nat : Builtin.bitNot (x : Int) = Int.negSucc x := by
  unfold Builtin.bitNot
  omega
theorem bitOr_nat : Builtin.bitOr (x : Int) (y : Int) = ((x ||| y : Nat) : Int) := by
  unfold Builtin.bitOr
  rw [bitNot_nat, bitNot_nat]
  unfold Builtin.bitAnd
  have h1 : decide ((0:Int) ≤ Int.negSucc x) = false := by simp
  have h2 : decide ((0:Int) ≤ Int.negSucc y) = false := by simp
  rw [h1, h2]
  have e1 : (Builtin.bitNot (Int.negSucc x)).toNat = x := by unfold Builtin.bitNot; omega
  have e2 : (Builtin.bitNot (Int.negSucc y)).toNat = y := by unfold Builtin.bitNot; omega
  simp only [e1, e2]
  unfold Builtin.bitNot
  omega
theorem nat_xor : ∀ x y : Nat, x ||| y = (x &&& y) + (x ^^^ y) := by
  intro x
  induction x using Nat.strongRecOn with
  | ind x ih =>
    intro y
    by_cases h0 : x = 0
    · subst h0; simp
    · have h1 := ih (x / 2) (by omega) (y / 2)
      have d1 := Nat.div_add_mod (x ||| y) 2
      have d2 := Nat.div_add_mod (x &&& y) 2
      have d3 := Nat.div_add_mod (x ^^^ y) 2
      rw [← Nat.or_div_two, ← Nat.and_div_two, ← Nat.xor_div_two] at h1
      have m : (x ||| y) % 2 = (x &&& y) % 2 + (x ^^^ y) % 2 := by
        rw [Nat.or_mod_two_pow (n := 1), Nat.and_mod_two_pow (n := 1), Nat.xor_mod_two_pow (n := 1)]
        have a := Nat.mod_lt x (y := 2 ^ 1) (by decide)
        have b := Nat.mod_lt y (y := 2 ^ 1) (by decide)
        generalize x % 2 ^ 1 = p at *
        generalize y % 2 ^ 1 = q at *
        match p, q, a, b with
        | 0, 0, _, _ => rfl
        | 0, 1, _, _ => rfl
        | 1, 0, _, _ => rfl
        | 1, 1, _, _ => rfl
      rw [← d1, ← d2, ← d3, h1, m, Nat.mul_add]
      exact Nat.add_add_add_comm ..
theorem bitXor_nat : Builtin.bitXor (x : Int) (y : Int) = ((x ^^^ y : Nat) : Int) := by
  unfold Builtin.bitXor
  rw [bitOr_nat, bitAnd_nat]
  have := nat_xor x y
  omega
theorem Op2.and_nat : Op2 W n (binaryOp .BitAnd) (.int (x : Nat)) (.int (y : Nat)) (.int ((x &&& y : Nat) : Int)) := bitAnd_nat ▸ Op2.and_int
theorem Op2.or_nat : Op2 W n (binaryOp .BitOr) (.int (x : Nat)) (.int (y : Nat)) (.int ((x ||| y : Nat) : Int)) := bitOr_nat ▸ Op2.or_int
theorem Op2.xor_nat : Op2 W n (binaryOp .BitXor) (.int (x : Nat)) (.int (y : Nat)) (.int ((x ^^^ y : Nat) : Int)) := bitXor_nat ▸ Op2.xor_int
theorem Op2.eq_nat : Op2 W n (compareOp .Eq) (.int (x : Nat)) (.int (y : Nat)) (.bool (x == y)) := by
  have := @Op2.eq_int W n x y
  rwa [show ((x : Int) == (y : Int)) = (x == y) by rw [Bool.eq_iff_iff]; simp only [beq_iff_eq]; omega] at this
theorem Op2.ne_nat : Op2 W n (compareOp .NotEq) (.int (x : Nat)) (.int (y : Nat)) (.bool (x != y)) := by
  have := @Op2.ne_int W n x y
  rwa [show ((x : Int) != (y : Int)) = (x != y) by rw [Bool.eq_iff_iff]; simp only [bne_iff_ne]; omega] at this
end Ints
end
section
open PySem PySem.Calls PyProof.Rows
section
variable {W : Wd} {A : Around} {n : Nat} {X : AS} {env : Env} {h : Heap} {names : List (Str × NameKind)} {ρ : List (Str × PV)}

theorem Ev.sub (C : Cx W A n X env h names ρ) {value slice : Expr} {pos : Pos} {o i v : PV} (hv : Ev W A X env h value o) (hi : Ev W A X env h slice i) (ho : Op2 W n (subscriptTail value slice) o i v) :
    Ev W A X env h (.Subscript value slice pos) v := fun s Q E k p =>
  Subscript_ (hv s _ E k fun ca h₁ tk₁ k₁ ra => hi _ _ E (k.trans k₁) fun cb h₂ tk₂ k₂ rb =>
    ho A X _ ca cb Q E (C.ok.at ((k.trans k₁).trans k₂)) (ra.mono k₂.le) rb (p.le (k₁.trans k₂)))

theorem seq_at {n m : Nat} {i : Int} (h : (if i < 0 then i + (n : Int) else i) = (m : Int)) (hm : m < n) : seqIndex? i n = some m := by
  unfold seqIndex?
  dsimp only
  rw [h]
  exact (if_pos (by rw [Bool.and_eq_true]; exact ⟨decide_eq_true (Int.natCast_nonneg m), decide_eq_true (Int.ofNat_lt.mpr hm)⟩)).trans (congrArg some (Int.toNat_natCast m))
theorem seq_last {n : Nat} (h : n ≠ 0) : seqIndex? (-1) n = some (n - 1) := by
  obtain ⟨m, rfl⟩ := Nat.exists_eq_succ_of_ne_zero h
  exact seq_at (m := m) ((if_pos (by decide)).trans (by omega)) (Nat.lt_succ_self m)
theorem seq_first {n : Nat} (h : n ≠ 0) : seqIndex? 0 n = some 0 := seq_at (m := 0) (if_neg (by decide)) (Nat.pos_of_ne_zero h)

theorem Op2.sub_list {value slice : Expr} {l : List PV} {k : Nat} {v : PV} (hx : l[k]? = some v) (hk : k < 2 ^ 63 := by omega)
    (hs : ∀ o i, subscripted slice false o i = operate [o, i] (getItem o i) := by intro _ _; with_unfolding_all rfl) : Op2 W n (subscriptTail value slice) (.list l) (.int (k : Nat)) v := fun A X s ca cb Q E O ra rb p => by
  obtain ⟨_, rfl⟩ := Rep.intI rb
  obtain ⟨_, rfl, _, _, na, ia, r⟩ := Rep.listI ra
  obtain ⟨c, hc, rc⟩ := r.get hx
  have hL := ia.isList
  exact tail_any hL.typeIs slot_list_getitem.lookup (wpAny_getItem_list hL (by omega) (by omega) (by simpa using hc) (p.here O.lo rc)) (hs _ _)

theorem Op2.sub_list_last {value slice : Expr} {l : List PV} {v : PV} (hx : l[l.length - 1]? = some v)
    (hs : ∀ o i, subscripted slice false o i = operate [o, i] (getItem o i) := by intro _ _; with_unfolding_all rfl) : Op2 W n (subscriptTail value slice) (.list l) (.int (-1)) v := fun A X s ca cb Q E O ra rb p => by
  obtain ⟨_, rfl⟩ := Rep.intI rb
  obtain ⟨a, rfl, vs, m, na, ia, r⟩ := Rep.listI ra
  obtain ⟨c, hc, rc⟩ := r.get hx
  have hL := ia.isList
  have hlen := r.length
  have hlt : l.length - 1 < l.length := (List.getElem?_eq_some_iff.mp hx).1
  refine tail_any hL.typeIs slot_list_getitem.lookup (wpAny_getItem_list_neg hL (by omega) (by simp; omega) (by omega) ?_ (p.here O.lo rc)) (hs _ _)
  have e : (-1 + ((vs.toArray.size : Nat) : Int)).toNat = l.length - 1 := by simp; omega
  rw [e]
  simpa using hc

theorem Op2.sub_tuple {value slice : Expr} {l : List PV} {k : Nat} {v : PV} (hx : l[k]? = some v) (hk : k < 2 ^ 62 := by omega)
    (hs : ∀ o i, subscripted slice false o i = operate [o, i] (getItem o i) := by intro _ _; with_unfolding_all rfl) : Op2 W n (subscriptTail value slice) (.tuple l) (.int (k : Nat)) v := fun A X s ca cb Q E O ra rb p => by
  obtain ⟨_, rfl⟩ := Rep.intI rb
  obtain ⟨a, rfl, vs, m, na, ia, r⟩ := Rep.tupleI ra
  obtain ⟨c, hc, rc⟩ := r.get hx
  have hT : IsTup s.heap a vs.toArray := ⟨_, ia, rfl, _, rfl⟩
  have hlt : k < vs.length := (List.getElem?_eq_some_iff.mp hc).1
  have hj : seqIndex? (k : Int) vs.toArray.size = some k := seq_at (if_neg (Int.not_lt.mpr (Int.natCast_nonneg k))) hlt
  exact tail_any hT.typeIs slot_tuple_getitem.lookup (getItem_tuple hT (by omega) (by omega) hj (by simpa using hc) (p.here O.lo rc)) (hs _ _)

noncomputable def EvArgs (W : Wd) (A : Around) (X : AS) (env : Env) (h : Heap) (es : List Expr) (vs : List PV) : Prop :=
  ∀ (s : Shared) (Q : List Value → Shared → Prop) (E : Value → Shared → Prop) (pos : Pos), LeW W.lo h s → (∀ cvs h' tk', LeW W.lo s.heap { s with heap := h', toks := tk' } → RepAll X h' cvs vs → Q cvs { s with heap := h', toks := tk' }) →
    wpAny W.M A (spliced (backTo pos (starEach es env))) Q E s

theorem EvArgs.nil : EvArgs W A X env h [] [] := fun s Q E pos k p => spliced_nil (p [] s.heap s.toks (.refl k.lo) .nil)
theorem EvArgs.cons {e : Expr} {r : List Expr} {v : PV} {vs : List PV} (he : Ev W A X env h e v) (hr : EvArgs W A X env h r vs) (hs : starEach (e :: r) env = (false, eval e env) :: starEach r env := by rfl) :
    EvArgs W A X env h (e :: r) (v :: vs) := fun s Q E pos k p => by
  rw [hs]
  refine spliced_cons (he s _ E k fun ca h₁ tk₁ k₁ ra => hr _ _ E pos (k.trans k₁) fun cvs h₂ tk₂ k₂ rr => ?_)
  exact p _ h₂ tk₂ (k₁.trans k₂) (.cons (ra.mono k₂.le) rr)

theorem Ev.list (C : Cx W A n X env h names ρ) {es : List Expr} {pos : Pos} {vs : List PV} (ha : EvArgs W A X env h es vs) (hl : vs.length ≤ 1000) : Ev W A X env h (.List es pos) (.list vs) := fun s Q E k p => by
  refine wpAny_List_spliced (ha s _ E _ k fun cvs h₁ tk₁ k₁ r => ⟨by rw [r.length, sizeLine_eq]; omega, ?_⟩)
  refine p _ _ tk₁ (k₁.more (Le.push _ _)) (.list (n := 0) ((C.ok.at (k.trans k₁)).new) (Heap.get?_push_size _ rfl) (r.mono (Le.push _ _)))
theorem Ev.tuple (C : Cx W A n X env h names ρ) {es : List Expr} {k : Nat} {pos : Pos} {vs : List PV} (ha : EvArgs W A X env h es vs) (hl : vs.length ≤ 1000) : Ev W A X env h (.Tuple es k pos) (.tuple vs) := fun s Q E k p => by
  refine wpAny_Tuple_spliced (ha s _ E _ k fun cvs h₁ tk₁ k₁ r => ⟨by rw [r.length, sizeLine_eq]; omega, ?_⟩)
  refine p _ _ tk₁ (k₁.more (Le.push _ _)) (.tuple (n := 0) ((C.ok.at (k.trans k₁)).new) (Heap.get?_push_size _ rfl) (r.mono (Le.push _ _)))

/-- a def of the text, called -/
noncomputable def Fun (W : Wd) (n : Nat) (d : DefRec) (args : List PV) (v : PV) : Prop :=
  ∀ A X s a o pm code doc cvs (Q : Value → Shared → Prop) (E : Value → Shared → Prop), OkS W A n X s → s.heap.get? a = some o → o.data = .func (docDef d.name d.params d.body d.scope pm code doc) → s.heap.CodeRec code d.name →
    RepAll X s.heap cvs args → Post W X s v Q → wpAny W.M A (call (.ref a) cvs) Q E s

theorem Ev.callF (C : Cx W A n X env h names ρ) {f : Str} {p pos : Pos} {e : Expr} {r : List Expr} {vs : List PV} {v : PV} (d : DefRec) (ha : EvArgs W A X env h (e :: r) vs) (ho : Fun W n d vs v) (hd : d ∈ W.ds) (hf : d.name = f)
    (hk : names.lookup f = some .globalImplicit := by first | decide +kernel | (dsimp only; decide +kernel))
    (hs : starEach (e :: r) env = (false, eval e env) :: starEach r env := by rfl) (hdb : (f == ("__debug__" : Str)) = false := by first | decide +kernel | (dsimp only; decide +kernel)) :
    Ev W A X env h (.Call (.Name f p) (e :: r) [] pos) v := fun s Q E k q => by
  have O := C.ok.at k
  obtain ⟨a, o, pm, code, doc, hg, hoo, hdd, hcc⟩ := O.base.fn d hd
  refine wpAny_Call_NameR (Name_function_global C.kind (by unfold Env.kindOf; rw [C.names]; exact hk) (loadGlobal_global (C.globals ▸ O.base.g) (hf ▸ hg) ?_) hdb)
  have ha' := ha s
  rw [hs] at ha' ⊢
  refine callWith_function (o := o) (fd := docDef d.name d.params d.body d.scope pm code doc) (evalArgs_plain (ha' _ E pos k fun cvs h₁ tk₁ k₁ rr => ?_))
  exact ⟨⟨k₁.le _ _ hoo, hdd⟩, ho A X _ a o pm code doc cvs Q E (O.mono k₁) (k₁.le _ _ hoo) hdd (hcc.keeps k₁.le) rr (q.le k₁)⟩

theorem any_star (es : List Expr) (env : Env) (pos : Pos) (h : (starEach es env).any (·.1) = false) : (backTo pos (starEach es env)).any (·.1) = false := by
  unfold backTo
  rw [List.any_map]
  exact h

theorem Ev.callB (C : Cx W A n X env h names ρ) {f : Str} {p pos : Pos} {e : Expr} {r : List Expr} {vs : List PV} {v : PV} {id : String} (ha : EvArgs W A X env h (e :: r) vs) (ho : Op W n (fun cvs => call (.builtin id) cvs) vs v)
    (hm : (f, Value.builtin id) ∈ usedBuiltins := by exact used_b (by decide +kernel))
    (hk : names.lookup f = some .globalImplicit := by first | decide +kernel | (dsimp only; decide +kernel))
    (hs : starEach (e :: r) env = (false, eval e env) :: starEach r env := by rfl) (hst : (starEach (e :: r) env).any (·.1) = false := by rfl) (hdb : (f == ("__debug__" : Str)) = false := by first | decide +kernel | (dsimp only; decide +kernel)) :
    Ev W A X env h (.Call (.Name f p) (e :: r) [] pos) v := fun s Q E k q => by
  have O := C.ok.at k
  obtain ⟨hg, hb⟩ := O.base.bi _ hm
  refine wpAny_Call_NameR (Name_function_global C.kind (by unfold Env.kindOf; rw [C.names]; exact hk) (loadGlobal_builtin (C.globals ▸ O.base.g) hg (C.builtins ▸ O.base.b) hb ?_) hdb)
  have hst' := any_star _ env pos hst
  have ha' := ha s
  rw [hs] at ha' ⊢ hst'
  refine callWith_builtin hst' (evalArgs_plain (ha' _ E pos k fun cvs h₁ tk₁ k₁ rr => ?_))
  exact ho A X _ cvs Q E (O.mono k₁) rr (q.le k₁)

theorem Ev.callT (C : Cx W A n X env h names ρ) {f : Str} {p pos : Pos} {e : Expr} {r : List Expr} {vs : List PV} {v : PV} {id : String} (ha : EvArgs W A X env h (e :: r) vs) (ho : Op W n (fun cvs => call (.type id) cvs) vs v)
    (hm : (f, Value.type id) ∈ usedBuiltins := by exact used_t (by decide +kernel))
    (hk : names.lookup f = some .globalImplicit := by first | decide +kernel | (dsimp only; decide +kernel))
    (hs : starEach (e :: r) env = (false, eval e env) :: starEach r env := by rfl) (hst : (starEach (e :: r) env).any (·.1) = false := by rfl) (hdb : (f == ("__debug__" : Str)) = false := by first | decide +kernel | (dsimp only; decide +kernel)) :
    Ev W A X env h (.Call (.Name f p) (e :: r) [] pos) v := fun s Q E k q => by
  have O := C.ok.at k
  obtain ⟨hg, hb⟩ := O.base.bi _ hm
  refine wpAny_Call_NameR (Name_function_global C.kind (by unfold Env.kindOf; rw [C.names]; exact hk) (loadGlobal_builtin (C.globals ▸ O.base.g) hg (C.builtins ▸ O.base.b) hb ?_) hdb)
  have hst' := any_star _ env pos hst
  have ha' := ha s
  rw [hs] at ha' ⊢ hst'
  refine PySem.callWith_type hst' (evalArgs_plain (ha' _ E pos k fun cvs h₁ tk₁ k₁ rr => ?_))
  exact ho A X _ cvs Q E (O.mono k₁) rr (q.le k₁)
end
end
section
open PySem PySem.Calls PyProof.Rows
/-! frames that are written -/
structure Fr1 (env : Env) (Y : AS) (h : Heap) (m : Str → Option Value) : Prop where
  ns : ∃ ml, h.Ns env.locals ml ∧ ∀ x, env.kindOf x = some .local → ml x = m x
  yl : Y env.locals
  nl : ∀ x c, env.cells.lookup x = some c → Y c → c ≠ env.locals
  cell : ∀ x c, env.kindOf x = some .cell → env.cells.lookup x = some c → Y c → h.IsCell c (m x)
  apart : ∀ x y c, env.cells.lookup x = some c → env.cells.lookup y = some c → Y c → x = y

noncomputable def upd (m : Str → Option Value) (x : Str) (v : Value) : Str → Option Value := fun y => if y = x then some v else m y
theorem Fr1.keep {env : Env} {Y : AS} {h h' : Heap} {m : Str → Option Value} (F : Fr1 env Y h m) (k : ∀ a o, Y a → h.get? a = some o → h'.get? a = some o) : Fr1 env Y h' m :=
  ⟨let ⟨ml, ⟨o, es, ep, ho, r⟩, e⟩ := F.ns; ⟨ml, ⟨o, es, ep, k _ _ F.yl ho, r⟩, e⟩, F.yl, F.nl, fun x c hk hc hy => let ⟨o, ho, hd⟩ := F.cell x c hk hc hy; ⟨o, k _ _ hy ho, hd⟩, F.apart⟩
theorem Fr1.mono {env : Env} {Y : AS} {h h' : Heap} {m : Str → Option Value} (F : Fr1 env Y h m) (k : Le h h') : Fr1 env Y h' m := F.keep fun a o _ e => k a o e

/-- a name that the frame may store -/
noncomputable def Own (env : Env) (Y : AS) (x : Str) : Prop := env.kindOf x = some .local ∨ (env.kindOf x = some .cell ∧ ∃ c, env.cells.lookup x = some c ∧ Y c)

theorem Fr1.store {M : Model} {A : Around} {E : Value → Shared → Prop} {s : Shared} {env : Env} {Y : AS} {m : Str → Option Value} {x : Str} {v : Value} {Q : Unit → Shared → Prop} (F : Fr1 env Y s.heap m)
    (hk : env.scope.kind = .function) (ho : Own env Y x)
    (q : ∀ h' tk', s.toks ≤ tk' → Fr1 env Y h' (upd m x v) → (∀ b, ¬ Y b → h'.get? b = s.heap.get? b) → Q () { s with heap := h', toks := tk' }) : wpAny M A (storeName env x v) Q E s := by
  obtain ⟨ml, hn, hm⟩ := F.ns
  refine wpAny_toks ?_
  rcases ho with hl | ⟨hl, c, hc, hy⟩
  · refine wpAny_storeName_local hl hn (fun h' hn' hs' => fun hle => ?_) (by rw [hk]; rfl)
    refine q h' _ hle ⟨⟨_, hn', fun y hy => ?_⟩, F.yl, F.nl, fun y c hyk hyc hY => ?_, F.apart⟩ fun b hb => hs'.2 b fun e => hb (e ▸ F.yl)
    · show (if y = x then some v else ml y) = (if y = x then some v else m y)
      split
      · rfl
      · exact hm y hy
    · have hne : y ≠ x := fun e => by rw [e, hl] at hyk; cases hyk
      have : upd m x v y = m y := if_neg hne
      rw [this]
      exact (F.cell y c hyk hyc hY).sameBut hs' (F.nl y c hyc hY)
  · refine wpAny_storeName_cell hk hl hc (F.cell x c hl hc hy) fun h' hc' hs' => fun hle => ?_
    have hcl := F.nl x c hc hy
    refine q h' _ hle ⟨⟨ml, hn.sameBut hs' (Ne.symm hcl), fun y hyk => ?_⟩, F.yl, F.nl, fun y d hyk hyd hY => ?_, F.apart⟩ fun b hb => hs'.2 b fun e => hb (e ▸ hy)
    · have hne : y ≠ x := fun e => by rw [e, hl] at hyk; cases hyk
      show ml y = upd m x v y
      rw [show upd m x v y = m y from if_neg hne]
      exact hm y hyk
    · by_cases e : y = x
      · subst e
        rw [hc] at hyd; cases hyd
        rw [show upd m y v y = some v from if_pos rfl]
        exact hc'
      · rw [show upd m x v y = m y from if_neg e]
        refine (F.cell y d hyk hyd hY).sameBut hs' fun q => e ?_
        subst q
        exact F.apart _ _ _ hyd hc hY

theorem Fr1.loads {env : Env} {Y : AS} {h : Heap} {m : Str → Option Value} {x : Str} {v : Value} (F : Fr1 env Y h m) (ho : Own env Y x) (hv : m x = some v) : Loads env h x v := by
  obtain ⟨ml, hn, hm⟩ := F.ns
  rcases ho with hl | ⟨hl, c, hc, hy⟩
  · exact .inl ⟨hl, ml, hn, (hm x hl).trans hv⟩
  · exact .inr ⟨.inl hl, c, hc, hv ▸ F.cell x c hl hc hy⟩

/-- the names of a target, stored in their order -/
noncomputable def StAll (M : Model) (A : Around) (env : Env) (K : Unit → Shared → Prop) (E : Value → Shared → Prop) : List Str → List Value → Shared → Prop
  | x :: xs, v :: vs, s => wpAny M A (storeName env x v) (fun _ s' => StAll M A env K E xs vs s') E s
  | _, _, s => K () s
noncomputable def updAll (m : Str → Option Value) : List Str → List Value → Str → Option Value
  | x :: xs, v :: vs => updAll (upd m x v) xs vs
  | _, _ => m

theorem Fr1.storeAll {M : Model} {A : Around} {E : Value → Shared → Prop} {env : Env} {Y : AS} (hk : env.scope.kind = .function) : ∀ {xs : List Str} {vs : List Value} {s : Shared} {m : Str → Option Value} {Q : Unit → Shared → Prop},
    Fr1 env Y s.heap m → (∀ x ∈ xs, Own env Y x) →
    (∀ h' tk', s.toks ≤ tk' → Fr1 env Y h' (updAll m xs vs) → (∀ b, ¬ Y b → h'.get? b = s.heap.get? b) → Q () { s with heap := h', toks := tk' }) → StAll M A env Q E xs vs s
  | [], _, s, m, Q, F, _, q => q s.heap s.toks (Nat.le_refl _) F fun _ _ => rfl
  | _ :: _, [], s, m, Q, F, _, q => q s.heap s.toks (Nat.le_refl _) F fun _ _ => rfl
  | x :: xs, v :: vs, s, m, Q, F, ho, q => F.store hk (ho x (.head _)) fun h' tk' t1 F' k => Fr1.storeAll hk F' (fun y hy => ho y (.tail _ hy)) fun h'' tk'' t2 F'' k' => q h'' tk'' (Nat.le_trans t1 t2) F'' fun b hb => (k' b hb).trans (k b hb)

theorem updAll_ne {x : Str} : ∀ {xs : List Str} {vs : List Value} {m : Str → Option Value}, x ∉ xs → updAll m xs vs x = m x
  | [], _, m, _ => rfl
  | _ :: _, [], m, _ => rfl
  | y :: xs, v :: vs, m, h => by
    have h1 : x ≠ y := fun e => h (e ▸ .head _)
    have h2 : x ∉ xs := fun e => h (.tail _ e)
    rw [updAll, updAll_ne h2]
    exact if_neg h1

/-! what a for's or a comprehension's turn draws -/
structure Tn (W : Wd) (A : Around) (target : Expr) (xs : List Str) (I : Addr) (fp wr : List Addr) (N : Nat) (Bv : Nat → List Value → Prop) (St : Nat → Heap → Prop) : Prop where
  sub : ∀ b ∈ wr, b ∈ fp
  frame : ∀ i h h', St i h → (∀ b ∈ fp, ∀ o, h.get? b = some o → h'.get? b = some o) → St i h'
  item : ∀ env i (s : Shared) (Kn : Shared → Prop) (K : Unit → Shared → Prop) (E : Value → Shared → Prop), i < N → St i s.heap → W.lo ≤ s.toks →
    (∀ vs h' tk, s.toks ≤ tk → Bv i vs → vs.length = xs.length → St (i + 1) h' → (∀ b o, b ∉ wr → s.heap.get? b = some o → h'.get? b = some o) → StAll W.M A env K E xs vs { s with heap := h', toks := tk }) →
    wpAny W.M A (pyNext (.ref I)) (fun r s₁ => match r with
      | none => Kn s₁
      | some v => wpAny W.M A (letOwnedTupleGo target (.ref I) v) (fun _ s₁' => wpAny W.M A (assign target env v) K E s₁') E s₁) E s
  alive : ∀ i h, St i h → ∀ b ∈ wr, Alive h b
  done : ∀ (s : Shared) (Q : Option Value → Shared → Prop) (E : Value → Shared → Prop), St N s.heap →
    (∀ h' tk, s.toks ≤ tk → (∀ b o, b ∉ wr → s.heap.get? b = some o → h'.get? b = some o) → Q none { s with heap := h', toks := tk }) → wpAny W.M A (pyNext (.ref I)) Q E s
  self : ∀ i (s : Shared) (Q : Value → Shared → Prop) (E : Value → Shared → Prop), St i s.heap → Q (.ref I) s → wpAny W.M A (pyIter (.ref I)) Q E s

section
variable {prog : Program} {w : World} {A : Around} {I : Addr} {fp wr : List Addr} {n : Nat}
theorem Walks.itemT {P : Nat → Value → Prop} {St : Nat → Heap → Prop} (K : Walks prog w A I fp wr n P St) (i : Nat) (s : Shared) (Q : Option Value → Shared → Prop) (E : Value → Shared → Prop) (hi : i < n) (st : St i s.heap)
    (q : ∀ v h' tk, s.toks ≤ tk → P i v → St (i + 1) h' → (∀ b o, b ∉ wr → s.heap.get? b = some o → h'.get? b = some o) → Q (some v) { s with heap := h', toks := tk }) : wpAny (model prog w) A (pyNext (.ref I)) Q E s :=
  wpAny_toks (K.item i s _ _ hi st fun v h' tk hP hst hk hle => q v h' tk hle hP hst hk)
theorem Walks.doneT {P : Nat → Value → Prop} {St : Nat → Heap → Prop} (K : Walks prog w A I fp wr n P St) (s : Shared) (Q : Option Value → Shared → Prop) (E : Value → Shared → Prop) (st : St n s.heap)
    (q : ∀ h' tk, s.toks ≤ tk → (∀ b o, b ∉ wr → s.heap.get? b = some o → h'.get? b = some o) → Q none { s with heap := h', toks := tk }) : wpAny (model prog w) A (pyNext (.ref I)) Q E s :=
  wpAny_toks (K.done s _ _ st fun h' tk hk hle => q h' tk hle hk)
theorem WalksU.itemT {Pt : Nat → Array Value → Prop} {St : Nat → Heap → Prop} {Mid : Nat → Addr → Heap → Prop} (K : WalksU prog w A I fp wr n Pt St Mid) (i : Nat) (s : Shared) (Q : Option Value → Shared → Prop) (E : Value → Shared → Prop) (hi : i < n) (st : St i s.heap)
    (q : ∀ T vals h' tk, s.toks ≤ tk → Pt i vals → h'.IsTuple T vals → Mid i T h' → (∀ b o, b ∉ wr → s.heap.get? b = some o → h'.get? b = some o) → Q (some (.ref T)) { s with heap := h', toks := tk }) : wpAny (model prog w) A (pyNext (.ref I)) Q E s :=
  wpAny_toks (K.item i s _ _ hi st fun T v h' tk hP hT hm hk hle => q T v h' tk hle hP hT hm hk)
theorem WalksU.doneT {Pt : Nat → Array Value → Prop} {St : Nat → Heap → Prop} {Mid : Nat → Addr → Heap → Prop} (K : WalksU prog w A I fp wr n Pt St Mid) (s : Shared) (Q : Option Value → Shared → Prop) (E : Value → Shared → Prop) (st : St n s.heap)
    (q : ∀ h' tk, s.toks ≤ tk → (∀ b o, b ∉ wr → s.heap.get? b = some o → h'.get? b = some o) → Q none { s with heap := h', toks := tk }) : wpAny (model prog w) A (pyNext (.ref I)) Q E s :=
  wpAny_toks (K.done s _ _ st fun h' tk hk hle => q h' tk hle hk)
end

theorem Tn.name {W : Wd} {A : Around} {x : Str} {px : Pos} {I : Addr} {fp wr : List Addr} {N : Nat} {P : Nat → Value → Prop} {St : Nat → Heap → Prop} (K : Walks W.prog W.w A I fp wr N P St) (hal : ∀ i h, St i h → ∀ b ∈ wr, Alive h b) :
    Tn W A (.Name x px) [x] I fp wr N (fun i vs => ∃ v, vs = [v] ∧ P i v) St where
  sub := K.sub
  frame := K.frame
  item := fun env i s Kn Q E hi st lo q => Walks.itemT K i s _ E hi st fun v h' tk hle hP hst hk =>
    wpAny_pure (PySem.wpAny_assign_Name (q [v] h' tk hle ⟨v, rfl, hP⟩ rfl hst hk))
  alive := hal
  done := Walks.doneT K
  self := K.self

theorem Tn.pair {W : Wd} {A : Around} (hh : A.handled = none) {x y : Str} {px py pt : Pos} {k : Nat} {I : Addr} {fp wr : List Addr} {N : Nat} {Pt : Nat → Array Value → Prop} {St : Nat → Heap → Prop} {Mid : Nat → Addr → Heap → Prop}
    (K : WalksU W.prog W.w A I fp wr N Pt St Mid) (hN : ∀ i vs, Pt i vs → vs.size = 2) (hfp : ∀ i h, St i h → ∀ b ∈ fp, Alive h b) :
    Tn W A (.Tuple [.Name x px, .Name y py] k pt) [x, y] I fp wr N (fun i vs => Pt i vs.toArray) St where
  sub := K.sub
  frame := K.frame
  item := fun env i s Kn Q E hi st lo q => WalksU.itemT K i s _ E hi st fun T vals h' tk hle hP hT hm hk => by
    refine K.go _ _ _ i T _ _ E hm fun h₂ hst₂ hk₂ => ?_
    have hsz := hN i vals hP
    obtain ⟨l⟩ := vals
    have hl2 : l.length = 2 := by simpa using hsz
    obtain ⟨a, b, rfl⟩ := len2 hl2
    have hT₂ : h₂.IsTuple T [a, b].toArray := hT.at fun o e => hk₂ _ o (K.apart i T _ hm) e
    refine wpAny_assign_Tuple hh hT₂ rfl rfl fun h₃ hx₃ => ?_
    show wpAny _ A (do holding [b] (assign (.Name x px) env a); do holding [] (assign (.Name y py) env b); pure ()) _ _ _
    have old : ∀ c o, h₂.get? c = some o → h₃.get? c = some o := fun c o e => hx₃ c o (fun q => by subst q; exact absurd (Heap.lt_size e) (Nat.lt_irrefl _)) e
    have qq := q [a, b] h₃ tk hle hP rfl (K.frame _ _ _ hst₂ fun c _ o e => old c o e) fun c o hc e => old c o (hk₂ c o hc (hk c o hc e))
    exact wpAny_bind (wpAny_holding (PySem.wpAny_assign_Name (wpAny_mono qq (fun _ s' h' => wpAny_bind (wpAny_holding (PySem.wpAny_assign_Name (wpAny_mono h' (fun _ s'' h'' => wpAny_pure h'') fun _ _ e => e)))) fun _ _ e => e)))
  alive := fun i h st b hb => hfp i h st b (K.sub b hb)
  done := WalksU.doneT K
  self := K.self

/-- an expression that is walked -/
noncomputable def EvIter (W : Wd) (A : Around) (X : AS) (env : Env) (h : Heap) (iter target : Expr) (xs : List Str) (rows : List (List PV)) : Prop :=
  ∀ (s : Shared) (K : Value → Shared → Prop) (E : Value → Shared → Prop), LeW W.lo h s →
    (∀ I fp wr Bv St h' tk', LeW W.lo s.heap { s with heap := h', toks := tk' } → Tn W A target xs I fp wr rows.length Bv St → (∀ i vs row, Bv i vs → rows[i]? = some row → RepAll (fun a => X a ∨ a ∈ wr) h' vs row) → St 0 h' → (∀ b ∈ fp, Alive h' b ∧ ¬ X b) → (∀ b ∈ wr, ¬ Alive s.heap b) →
      K (.ref I) { s with heap := h', toks := tk' }) →
    wpAny W.M A (eval iter env) (fun xv s₁ => wpAny W.M A (pyIter xv) K E s₁) E s
end
section
open PySem PySem.Calls PyProof.Rows
/-! comprehensions -/
section
variable {W : Wd} {A : Around} {R : Result → Shared → Prop} {s : Shared}

theorem compLoop_gen {e target : Expr} {d : Nat} {it acc : Value} {env : Env} {ip : Pos} {ifs : List Expr} {TAIL : Sem Unit}
    (hturn : compTurn e d it acc env = (do
      standAt ip
      match ← pyNext it with
      | none => pure (.done .next)
      | some v =>
        letOwnedTupleGo target it v
        assign target env v
        let mut ok := true
        for c in ifs do
          if ok then ok ← isTrue c env (eval c env)
        if ok then TAIL
        again (.compLoop e d it acc env)))
    (hfr : (Code.compLoop e d it acc env).isFrame = false) (hq : (Code.compLoop e d it acc env).quiet = true) (hun : A.under (.compLoop e d it acc env) = A)
    (I : Nat → Shared → Prop)
    (turn : ∀ n s, I n s → wpAny W.M A (pyNext it) (fun r s₁ => match r with
      | none => R (.ok .next) s₁
      | some v => wpAny W.M A (letOwnedTupleGo target it v) (fun _ s₁' => wpAny W.M A (assign target env v) (fun _ s₂ =>
          wpAny W.M A (forIn ifs true fun c r => if r = true then do let ok ← isTrue c env (eval c env); pure (ForInStep.yield ok) else pure (ForInStep.yield r)) (fun ok s₃ =>
            if ok = true then wpAny W.M A TAIL (fun _ s₄ => ∃ m, m < n ∧ I m s₄) (notedBy W.M A env fun e s' => R (.error e) s') s₃
            else ∃ m, m < n ∧ I m s₃) (notedBy W.M A env fun e s' => R (.error e) s') s₂) (notedBy W.M A env fun e s' => R (.error e) s') s₁') (notedBy W.M A env fun e s' => R (.error e) s') s₁) (notedBy W.M A env fun e s' => R (.error e) s') s)
    (n : Nat) (h : I n s) : codeAny W.M A (.compLoop e d it acc env) R s := by
  refine codeAny_loop hq I (fun n s hI => ?_) n h
  rw [hun]
  have e0 : (model W.prog W.w).den (.compLoop e d it acc env) = (if (Code.compLoop e d it acc env).isFrame then (compTurn e d it acc env).onRaise (leaving env) else (compTurn e d it acc env).onRaise (fun x => do noteFrame x env; theTreesLotGoes x)) := rfl
  rw [e0, hfr]
  simp only [Bool.false_eq_true, if_false]
  refine wpAny_noted ?_
  rw [hturn]
  refine wpAny_bind (wpAny_standAt (wpAny_bind (wpAny_mono (turn n s hI) (fun r s₁ h₁ => ?_) fun _ _ h' => h')))
  cases r with
  | none => exact wpAny_pure h₁
  | some v =>
    refine wpAny_bind (wpAny_mono h₁ (fun _ s₁' h₁' => ?_) fun _ _ h' => h')
    refine wpAny_bind (wpAny_mono h₁' (fun _ s₂ h₂ => wpAny_bind (wpAny_mono h₂ (fun ok s₃ h₃ => ?_) fun _ _ h' => h')) fun _ _ h' => h')
    cases ok with
    | false => exact wpAny_pure ⟨rfl, h₃⟩
    | true => exact wpAny_bind (wpAny_mono h₃ (fun x s₄ h₄ => wpAny_pure ⟨rfl, h₄⟩) fun _ _ h' => h')
end

/-- the list that is filled, and the block's own frame -/
noncomputable def TokOk (tk : Nat) (v : Value) : Prop := ∀ x t, v = .str x t → 0 < t ∧ t < tk
theorem TokOk.mono {tk tk' : Nat} {v : Value} (x : TokOk tk v) (h : tk ≤ tk') : TokOk tk' v := fun y t e => ⟨(x y t e).1, Nat.lt_of_lt_of_le (x y t e).2 h⟩
structure CInv (K : Prop) (tk : Nat) (X : AS) (env : Env) (Y : AS) (D : Addr) (h : Heap) (l : List PV) : Prop where
  acc : ∃ vs n, IsL h D vs.toArray n ∧ RepAll X h vs l ∧ (K → ∀ v ∈ vs, TokOk tk v)
  frame : ∃ m, Fr1 env Y h m

noncomputable def KeptBut (Z : AS) (h h' : Heap) : Prop := ∀ b o, ¬ Z b → h.get? b = some o → h'.get? b = some o
theorem KeptBut.refl {Z : AS} (h : Heap) : KeptBut Z h h := fun _ _ _ e => e
theorem KeptBut.trans {Z : AS} {h₁ h₂ h₃ : Heap} (x : KeptBut Z h₁ h₂) (y : KeptBut Z h₂ h₃) : KeptBut Z h₁ h₃ := fun b o n e => y b o n (x b o n e)
theorem KeptBut.more {Z Z' : AS} {h h' : Heap} (x : KeptBut Z h h') (k : ∀ b, Z b → Z' b) : KeptBut Z' h h' := fun b o n e => x b o (fun z => n (k b z)) e
theorem Le.kept {Z : AS} {h h' : Heap} (x : Le h h') : KeptBut Z h h' := fun b o _ e => x b o e

/-- the tests of a clause -/
noncomputable def EvIfs (W : Wd) (A : Around) (env : Env) (h : Heap) (ifs : List Expr) (b : Bool) : Prop :=
  ∀ (s : Shared) (Q : Bool → Shared → Prop) (E : Value → Shared → Prop), LeW W.lo h s → (∀ h' tk', LeW W.lo s.heap { s with heap := h', toks := tk' } → Q b { s with heap := h', toks := tk' }) →
    wpAny W.M A (forIn ifs true fun c r => if r = true then do let ok ← isTrue c env (eval c env); pure (ForInStep.yield ok) else pure (ForInStep.yield r)) Q E s
theorem EvIfs.nil {W : Wd} {A : Around} {env : Env} {h : Heap} : EvIfs W A env h [] true := fun s Q E k q => wpAny_tests_nil (q s.heap s.toks (.refl k.lo))
theorem EvIfs.one {W : Wd} {A : Around} {env : Env} {h : Heap} {c : Expr} {b : Bool} (x : EvB W A env h c b) : EvIfs W A env h [c] b := fun s Q E k q => wpAny_tests_one (x s Q E k q)

/-- one turn's work behind the storing of its names: the list grows by out -/
noncomputable def TurnOut (K : Prop) (W : Wd) (A : Around) (X : AS) (env : Env) (Y : AS) (D : Addr) (ifs : List Expr) (TAIL : Sem Unit) (s : Shared) (out : List PV) : Prop :=
  ∀ (Q : Unit → Shared → Prop) (E : Value → Shared → Prop) l, l.length ≤ 100000 → W.lo ≤ s.toks → CInv K s.toks X env Y D s.heap l →
    (∀ h' tk', W.lo ≤ tk' → CInv K tk' X env Y D h' (l ++ out) → KeptBut (fun b => Y b ∨ b = D) s.heap h' → Q () { s with heap := h', toks := tk' }) →
    wpAny W.M A (forIn ifs true fun c r => if r = true then do let ok ← isTrue c env (eval c env); pure (ForInStep.yield ok) else pure (ForInStep.yield r)) (fun ok s₃ =>
      if ok = true then wpAny W.M A TAIL Q E s₃ else Q () s₃) E s

section
variable {W : Wd} {A : Around} {R : Result → Shared → Prop} {s : Shared}

theorem CInv.keep {K : Prop} {tk tk' : Nat} {X : AS} {env : Env} {Y : AS} {D : Addr} {h h' : Heap} {l : List PV} (c : CInv K tk X env Y D h l) (hx : ∀ b, Y b → X b) (hd : X D) (ht : tk ≤ tk') (k : ∀ b o, h.get? b = some o → h'.get? b = some o) : CInv K tk' X env Y D h' l :=
  ⟨let ⟨vs, n, i, r, q⟩ := c.acc; ⟨vs, n, k _ _ i, r.mono k, fun z v hv => (q z v hv).mono ht⟩, let ⟨m, f⟩ := c.frame; ⟨m, f.mono k⟩⟩

theorem compLoop_core {e target : Expr} {d : Nat} {I D : Addr} {env : Env} {ip : Pos} {ifs : List Expr} {TAIL : Sem Unit} {xs : List Str} {fp wr : List Addr} {N : Nat} {Bv : Nat → List Value → Prop} {St : Nat → Heap → Prop} {X Y : AS} (K : Prop)
    (hturn : compTurn e d (.ref I) (.ref D) env = (do
      standAt ip
      match ← pyNext (.ref I) with
      | none => pure (.done .next)
      | some v =>
        letOwnedTupleGo target (.ref I) v
        assign target env v
        let mut ok := true
        for c in ifs do
          if ok then ok ← isTrue c env (eval c env)
        if ok then TAIL
        again (.compLoop e d (.ref I) (.ref D) env)))
    (hfr : (Code.compLoop e d (.ref I) (.ref D) env).isFrame = false) (hq : (Code.compLoop e d (.ref I) (.ref D) env).quiet = true) (hun : A.under (.compLoop e d (.ref I) (.ref D) env) = A)
    (T : Tn W A target xs I fp wr N Bv St) (hk : env.scope.kind = .function) (hown : ∀ x ∈ xs, Own env Y x)
    (hY : ∀ b ∈ fp, ¬ Y b) (hD : D ∉ fp) (hDY : ¬ Y D) (hXY : ∀ b, Y b → X b) (hXw : ∀ b ∈ wr, X b)
    (outs : List (List PV)) (hN : outs.length = N)
    (turn : ∀ i vs out s₁ m, Bv i vs → vs.length = xs.length → outs[i]? = some out → Fr1 env Y s₁.heap (updAll m xs vs) → KeptBut (fun b => Y b ∨ b = D ∨ b ∈ wr) s.heap s₁.heap → TurnOut K W A X env Y D ifs TAIL s₁ out)
    (hst : St 0 s.heap) (hlo : W.lo ≤ s.toks) (l₀ : List PV) (htot : (l₀ ++ outs.flatten).length ≤ 100000) (hc : CInv K s.toks X env Y D s.heap l₀)
    (hR : ∀ h' tk', W.lo ≤ tk' → CInv K tk' X env Y D h' (l₀ ++ outs.flatten) → KeptBut (fun b => Y b ∨ b = D ∨ b ∈ wr) s.heap h' → R (.ok .next) { s with heap := h', toks := tk' }) :
    codeAny W.M A (.compLoop e d (.ref I) (.ref D) env) R s := by
  refine compLoop_gen hturn hfr hq hun
    (fun k s' => ∃ h' tk i, s' = { s with heap := h', toks := tk } ∧ St i h' ∧ i ≤ N ∧ k = N + 1 - i ∧ W.lo ≤ tk ∧ CInv K tk X env Y D h' (l₀ ++ (outs.take i).flatten) ∧ KeptBut (fun b => Y b ∨ b = D ∨ b ∈ wr) s.heap h') ?_ (N + 1)
    ⟨s.heap, s.toks, 0, rfl, hst, Nat.zero_le _, rfl, hlo, by simpa using hc, .refl _⟩
  rintro k s' ⟨H, tk, i, rfl, hst', hi, rfl, hlo', hc', hk'⟩
  have hDw : D ∉ wr := fun h => hD (T.sub _ h)
  by_cases hlt : i < N
  · obtain ⟨out, hout⟩ : ∃ out, outs[i]? = some out := ⟨outs[i]'(by omega), List.getElem?_eq_getElem _⟩
    refine T.item env i _ _ _ _ hlt hst' hlo' fun vs h₁ tk₁ ht₁ hB hlen hst₁ hk₁ => ?_
    obtain ⟨⟨ws, nn, hl, hr, hq⟩, m, F⟩ := hc'
    have hyw : ∀ b, Y b → b ∉ wr := fun b hy hw => hY b (T.sub _ hw) hy
    have F₁ : Fr1 env Y h₁ m := F.keep fun a o hy e => hk₁ a o (hyw a hy) e
    refine F₁.storeAll hk hown fun h₂ tk₂ ht₂ F₂ k₂ => ?_
    have htt : tk ≤ tk₂ := Nat.le_trans ht₁ ht₂
    have hlo₂ : W.lo ≤ tk₂ := Nat.le_trans hlo' htt
    have kk₂ : KeptBut (fun b => Y b ∨ b ∈ wr) H h₂ := fun b o n e => (k₂ b fun y => n (.inl y)).trans (hk₁ b o (fun w => n (.inr w)) e)
    have hl₂ : IsL h₂ D ws.toArray nn := kk₂ D _ (fun q => q.elim hDY hDw) hl
    have hr₂ : RepAll X h₂ ws (l₀ ++ (outs.take i).flatten) := hr.keep fun a o n e => kk₂ a o (fun q => q.elim (fun y => n (hXY _ y)) fun w => n (hXw _ w)) e
    have st₂ : St (i + 1) h₂ := T.frame _ _ _ hst₁ fun b hb o e => (k₂ b (hY b hb)).trans e
    have K₂ : KeptBut (fun b => Y b ∨ b = D ∨ b ∈ wr) s.heap h₂ := hk'.trans (kk₂.more fun b q => q.elim .inl fun w => .inr (.inr w))
    have htk : outs.take (i + 1) = outs.take i ++ [out] := by rw [List.take_add_one, hout]; rfl
    have hpre : (l₀ ++ (outs.take i).flatten).length ≤ 100000 := by
      have e : outs.flatten = (outs.take i).flatten ++ (outs.drop i).flatten := by rw [← List.flatten_append, List.take_append_drop]
      rw [e] at htot
      simp only [List.length_append] at htot ⊢
      omega
    have go := turn i vs out { s with heap := h₂, toks := tk₂ } m hB hlen hout F₂ K₂
      (fun _ s₄ => ∃ m, m < N + 1 - i ∧ ∃ h' tk i, s₄ = { s with heap := h', toks := tk } ∧ St i h' ∧ i ≤ N ∧ m = N + 1 - i ∧ W.lo ≤ tk ∧ CInv K tk X env Y D h' (l₀ ++ (outs.take i).flatten) ∧ KeptBut (fun b => Y b ∨ b = D ∨ b ∈ wr) s.heap h')
      (notedBy W.M A env fun e s' => R (.error e) s') _ hpre hlo₂ ⟨⟨ws, nn, hl₂, hr₂, fun z v hv => (hq z v hv).mono htt⟩, _, F₂⟩ fun h₃ tk₃ hlo₃ c₃ k₃ => ?_
    · exact go
    · refine ⟨N + 1 - (i + 1), by omega, h₃, tk₃, i + 1, rfl, T.frame _ _ _ st₂ fun b hb o e => k₃ b o (fun q => q.elim (hY b hb) fun q => hD (q ▸ hb)) e, hlt, rfl, hlo₃, ?_, K₂.trans (k₃.more fun b q => q.elim .inl fun w => .inr (.inl w))⟩
      rw [htk, List.flatten_append, ← List.append_assoc]
      simpa using c₃
  · have hiN : i = N := by omega
    subst hiN
    refine T.done _ _ _ hst' fun h₁ tk₁ ht₁ hk₁ => ?_
    have kk : KeptBut (fun b => b ∈ wr) H h₁ := fun b o n e => hk₁ b o n e
    obtain ⟨⟨ws, nn, hl, hr, hq⟩, m, F⟩ := hc'
    have hyw : ∀ b, Y b → b ∉ wr := fun b hy hw => hY b (T.sub _ hw) hy
    refine hR h₁ tk₁ (Nat.le_trans hlo' ht₁) ⟨⟨ws, nn, hk₁ _ _ hDw hl, ?_, fun z v hv => (hq z v hv).mono ht₁⟩, m, F.keep fun a o hy e => hk₁ a o (hyw a hy) e⟩ (hk'.trans (kk.more fun b w => .inr (.inr w)))
    have e : outs.take i = outs := List.take_of_length_le (by omega)
    rw [e] at hr
    exact hr.keep fun a o n e => hk₁ a o (fun w => n (hXw _ w)) e
end
end
section
open PySem PySem.Calls PyProof.Rows
/-! a comprehension's own frame -/
noncomputable def closL (cells : List (Str × Addr)) : List (Str × NameKind) → List (Str × Addr) → List (Str × Addr)
  | [], acc => acc
  | (n, k) :: r, acc => closL cells r (if k = .free then (match cells.lookup n with | some a => (n, a) :: acc | none => acc) else acc)

theorem closureFor_eq {env : Env} : ∀ (names : List (Str × NameKind)) (acc : List (Str × Addr)), (∀ x ∈ names, x.2 = .free → (env.cells.lookup x.1).isSome = true) →
    forIn (m := Sem) names acc (fun x cs => if (x.2 == NameKind.free) = true then do let a ← cellOf env x.1; pure (ForInStep.yield ((x.1, a) :: cs)) else pure (ForInStep.yield cs)) = pure (closL env.cells names acc)
  | [], acc, _ => by rw [List.forIn_nil]; rfl
  | (n, k) :: r, acc, h => by
    rw [List.forIn_cons]
    have hr := closureFor_eq (env := env) r
    by_cases hk : k = .free
    · subst hk
      obtain ⟨a, ha⟩ := Option.isSome_iff_exists.mp (h (n, .free) (.head _) rfl)
      have hc : cellOf env n = pure a := by unfold cellOf; rw [ha]
      simp only [beq_self_eq_true, if_true, hc, closL, ha]
      exact hr ((n, a) :: acc) fun x hx => h x (.tail _ hx)
    · have hb : (k == NameKind.free) = false := by simpa using hk
      simp only [hb, Bool.false_eq_true, if_false, closL, hk]
      exact hr acc fun x hx => h x (.tail _ hx)
theorem closureFor_is {scope : Scope} {env : Env} (h : ∀ x ∈ scope.names, x.2 = .free → (env.cells.lookup x.1).isSome = true) : closureFor scope env = pure (closL env.cells scope.names []) := by
  have e := closureFor_eq (env := env) scope.names [] h
  have e0 : closureFor scope env = (forIn (m := Sem) scope.names ([] : List (Str × Addr)) (fun x cs => if (x.2 == NameKind.free) = true then do let a ← cellOf env x.1; pure (ForInStep.yield ((x.1, a) :: cs)) else pure (ForInStep.yield cs)) >>= fun cs => pure cs) := rfl
  rw [e0, e]
  rfl

theorem closL_lookup {cells : List (Str × Addr)} {y : Str} : ∀ (names : List (Str × NameKind)) (acc : List (Str × Addr)), (∀ x ∈ names, x.2 = .free → (cells.lookup x.1).isSome = true) →
    (acc.lookup y = cells.lookup y ∨ (y, NameKind.free) ∈ names) → (closL cells names acc).lookup y = cells.lookup y
  | [], acc, _, h => h.elim id fun q => nomatch q
  | (n, k) :: r, acc, hs, h => by
    have hr := fun acc' => closL_lookup (cells := cells) (y := y) r acc' fun x hx => hs x (.tail _ hx)
    by_cases hk : k = .free
    · subst hk
      obtain ⟨a, ha⟩ := Option.isSome_iff_exists.mp (hs (n, .free) (.head _) rfl)
      simp only [closL, if_true, ha]
      refine hr _ ?_
      by_cases hy : y = n
      · subst hy
        exact .inl (by rw [List.lookup_cons, beq_self_eq_true, ha])
      · rcases h with h | h
        · exact .inl (by rw [List.lookup_cons, beq_eq_false_iff_ne.mpr hy]; exact h)
        · rcases List.mem_cons.mp h with q | q
          · exact absurd (Prod.mk.inj q).1 hy
          · exact .inr q
    · simp only [closL, hk, if_false]
      refine hr _ ?_
      rcases h with h | h
      · exact .inl h
      · rcases List.mem_cons.mp h with q | q
        · exact absurd (Prod.mk.inj q).2.symm hk
        · exact .inr q

theorem closL_mem {cells : List (Str × Addr)} {y : Str} {d : Addr} : ∀ (names : List (Str × NameKind)) (acc : List (Str × Addr)), (y, d) ∈ closL cells names acc → (y, d) ∈ acc ∨ (cells.lookup y = some d ∧ (y, NameKind.free) ∈ names)
  | [], acc, h => .inl h
  | (n, k) :: r, acc, h => by
    rw [closL] at h
    rcases closL_mem r _ h with q | ⟨q, m⟩
    · split at q
      · rename_i hk
        split at q
        · rename_i a ha
          rcases List.mem_cons.mp q with q | q
          · cases q
            subst hk
            exact .inr ⟨ha, .head _⟩
          · exact .inl q
        · exact .inl q
      · exact .inl q
    · exact .inr ⟨q, .tail _ m⟩
theorem cellsFrom_other {y : Str} : ∀ (names : List (Str × NameKind)) (n : Nat) (acc : List (Str × Addr)), (y, NameKind.cell) ∉ names → (cellsFrom n names acc).lookup y = acc.lookup y
  | [], _, _, _ => rfl
  | (x, k) :: r, n, acc, h => by
    have h2 : (y, NameKind.cell) ∉ r := fun q => h (.tail _ q)
    unfold cellsFrom
    split
    · rename_i hk
      have hk' : k = .cell := by simpa using hk
      subst hk'
      rw [cellsFrom_other r _ _ h2, List.lookup_cons, beq_eq_false_iff_ne.mpr (fun q : y = x => h (q ▸ .head _))]
    · exact cellsFrom_other r _ _ h2
theorem cellsFrom_mine {y : Str} : ∀ (names : List (Str × NameKind)) (n : Nat) (acc : List (Str × Addr)), (y, NameKind.cell) ∈ names → ∃ c, (cellsFrom n names acc).lookup y = some c ∧ n ≤ c
  | (x, k) :: r, n, acc, h => by
    by_cases h2 : (y, NameKind.cell) ∈ r
    · unfold cellsFrom
      split
      · obtain ⟨c, e, hc⟩ := cellsFrom_mine r (n + 1) ((x, n) :: acc) h2
        exact ⟨c, e, by omega⟩
      · exact cellsFrom_mine r n acc h2
    · rcases List.mem_cons.mp h with q | q
      · cases q
        unfold cellsFrom
        simp only [beq_self_eq_true, if_true]
        rw [cellsFrom_other r _ _ h2, List.lookup_cons, beq_self_eq_true]
        exact ⟨n, rfl, Nat.le_refl _⟩
      · exact absurd q h2
theorem cellsFrom_apart {n₀ : Nat} : ∀ (names : List (Str × NameKind)) (n : Nat) (acc : List (Str × Addr)), n₀ ≤ n → (∀ p ∈ acc, p.2 < n) → (∀ x y c, (x, c) ∈ acc → (y, c) ∈ acc → n₀ ≤ c → x = y) →
    ∀ x y c, (x, c) ∈ cellsFrom n names acc → (y, c) ∈ cellsFrom n names acc → n₀ ≤ c → x = y
  | [], _, _, _, _, h => h
  | (z, k) :: r, n, acc, hn, hb, h => by
    unfold cellsFrom
    split
    · refine cellsFrom_apart r (n + 1) _ (by omega) (fun p hp => ?_) fun x y c hx hy hc => ?_
      · rcases List.mem_cons.mp hp with rfl | hp
        · exact Nat.lt_succ_self _
        · exact Nat.lt_succ_of_lt (hb p hp)
      · rcases List.mem_cons.mp hx with q | q <;> rcases List.mem_cons.mp hy with q' | q'
        · rw [(Prod.mk.inj q).1, (Prod.mk.inj q').1]
        · have := hb _ q'
          have e := (Prod.mk.inj q).2
          exact absurd this (by rw [e]; exact Nat.lt_irrefl _)
        · have := hb _ q
          have e := (Prod.mk.inj q').2
          exact absurd this (by rw [e]; exact Nat.lt_irrefl _)
        · exact h x y c q q' hc
    · exact cellsFrom_apart r n acc hn hb h
theorem cellsFrom_isCell {n₀ : Nat} : ∀ (names : List (Str × NameKind)) (h : Heap) (acc : List (Str × Addr)), n₀ ≤ h.objs.size → (∀ x c, (x, c) ∈ acc → n₀ ≤ c → h.IsCell c none) →
    ∀ x c, (x, c) ∈ cellsFrom h.objs.size names acc → n₀ ≤ c → (pushCells h names).IsCell c none
  | [], h, acc, _, ha => ha
  | (z, k) :: r, h, acc, hn, ha => by
    unfold cellsFrom pushCells
    split
    · have := cellsFrom_isCell (n₀ := n₀) r (h.push { cls := .type "cell", data := .cell none }) ((z, h.objs.size) :: acc) (by rw [Heap.size_push]; omega) fun x c hx hc => by
        rcases List.mem_cons.mp hx with q | q
        · cases q
          exact ⟨_, Heap.get?_push_size _ rfl, rfl⟩
        · exact (ha x c q hc).keeps fun b o e => Heap.get?_push_of_some _ e
      rwa [Heap.size_push] at this
    · exact cellsFrom_isCell r h acc hn ha

theorem lookup_mem {α : Type} {l : List (Str × α)} {n : Str} {c : α} (h : l.lookup n = some c) : (n, c) ∈ l := mem_of_lookup h

/-- the names of a comprehension's block as they are read in it -/
noncomputable def relN (outer : List (Str × NameKind)) : List (Str × NameKind) → List (Str × NameKind)
  | [] => []
  | (n, k) :: r => (if (k == .free && outer.lookup n == some .cell) = true then (n, .cell) else (n, k)) :: relN outer r
theorem relN_map (outer : List (Str × NameKind)) : ∀ ns : List (Str × NameKind), (ns.map fun (n, k) => if (k == NameKind.free && outer.lookup n == some .cell) = true then (n, NameKind.cell) else (n, k)) = relN outer ns
  | [] => rfl
  | (n, k) :: r => by rw [List.map_cons, relN, relN_map outer r]

theorem relN_lookup {outer : List (Str × NameKind)} {x : Str} {k : NameKind} : ∀ {ns : List (Str × NameKind)}, ns.lookup x = some k → (relN outer ns).lookup x = some k ∨ (k = .free ∧ (relN outer ns).lookup x = some .cell)
  | [], h => nomatch h
  | (n, j) :: r, h => by
    rw [relN]
    cases hx : x == n with
    | true =>
      rw [List.lookup_cons, hx] at h
      cases h
      by_cases hc : (k == .free && outer.lookup n == some .cell) = true
      · rw [if_pos hc, List.lookup_cons, hx]
        refine .inr ⟨?_, rfl⟩
        rw [Bool.and_eq_true] at hc
        simpa using hc.1
      · rw [if_neg hc, List.lookup_cons, hx]
        exact .inl rfl
    | false =>
      rw [List.lookup_cons, hx] at h
      have ih := relN_lookup (outer := outer) (ns := r) h
      by_cases hc : (j == .free && outer.lookup n == some .cell) = true
      · rw [if_pos hc, List.lookup_cons, hx]; exact ih
      · rw [if_neg hc, List.lookup_cons, hx]; exact ih

/-- what is looked at once in a comprehension's names -/
noncomputable def compOk (outer ns : List (Str × NameKind)) (xs : List Str) : Bool :=
  ns.all (fun p => p.2 != .local || ns.lookup p.1 == some .local) &&
  ns.all (fun p => p.2 != .free || (outer.lookup p.1 == some .cell || outer.lookup p.1 == some .free)) &&
  xs.all (fun x => ns.lookup x == some .local || ns.lookup x == some .cell) &&
  ns.all (fun p => p.2 != .cell || ns.lookup p.1 == some .cell) &&
  ns.all (fun p => p.2 != .free || ns.lookup p.1 == some .free) && decide xs.Nodup

/-- the part of a store that a block takes along -/
inductive Cap (ns : List (Str × NameKind)) : List (Str × PV) → List (Str × PV) → Prop
  | nil : Cap ns [] []
  | keep {x : Str} {v : PV} {r r' : List (Str × PV)} : ns.lookup x = some .free → Cap ns r r' → Cap ns ((x, v) :: r) ((x, v) :: r')
  | drop {x : Str} {v : PV} {r r' : List (Str × PV)} : Cap ns r r' → Cap ns ((x, v) :: r) r'
theorem Cap.look {ns : List (Str × NameKind)} {ρ ρ' : List (Str × PV)} (c : Cap ns ρ ρ') : ∀ {x : Str} {v : PV}, Look ρ' x v → Look ρ x v ∧ ns.lookup x = some .free := by
  induction c with
  | nil => intro x v l; cases l
  | keep h _ ih =>
    intro x v l
    cases l with
    | head => exact ⟨.head, h⟩
    | tail l => exact ⟨.tail (ih l).1, (ih l).2⟩
  | drop _ ih => intro x v l; exact ⟨.tail (ih l).1, (ih l).2⟩

theorem Look.append {ρ ρ' : List (Str × PV)} {x : Str} {v : PV} : Look (ρ ++ ρ') x v → Look ρ x v ∨ Look ρ' x v := by
  induction ρ with
  | nil => exact .inr
  | cons p r ih =>
    intro l
    cases l with
    | head => exact .inl .head
    | tail l => exact (ih l).imp .tail id

theorem zip_look {X : AS} {h : Heap} {x : Str} {p : PV} {xs : List Str} {vs : List Value} {row : List PV} {m : Str → Option Value} (l : Look (xs.zip row) x p) (r : RepAll X h vs row) (hn : xs.Nodup) : ∃ v, updAll m xs vs x = some v ∧ Rep X h v p ∧ x ∈ xs := by
  induction xs generalizing vs row m with
  | nil => cases l
  | cons y xs ih =>
    cases row with
    | nil => cases l
    | cons q row =>
      obtain ⟨v, vs, rfl, a, b⟩ := RepAll.consI r
      obtain ⟨hy, hn⟩ := List.nodup_cons.mp hn
      rw [List.zip_cons_cons] at l
      cases l with
      | head => exact ⟨v, by rw [updAll, updAll_ne hy]; exact if_pos rfl, a, .head _⟩
      | tail l =>
        obtain ⟨u, e, r, hm⟩ := ih (m := upd m y v) l b hn
        exact ⟨u, e, r, .tail _ hm⟩
end
section
open PySem PySem.Calls PyProof.Rows
theorem wpAny_compEnv {M : Model} {A : Around} {E : Value → Shared → Prop} {s : Shared} {scope : Scope} {globals : Addr} {cl : List (Str × Addr)} {qual : Str} {outer : Env} {Q : Env → Shared → Prop}
    (hQ : Q { scope, locals := s.heap.objs.size, globals, cells := cellsFrom (s.heap.objs.size + 1) scope.names cl, qual, func := none, code := outer.code, frame := outer.frame, builtins := outer.builtins }
      { s with heap := pushCells (s.heap.push { cls := .type "dict", data := .dict #[] }) scope.names }) :
    wpAny M A (newFunctionEnv scope globals cl [] qual none .none (some outer)) Q E s := by
  simp only [newFunctionEnv, Option.isSome_some, if_true]
  refine wpAny_bind (wpAny_alloc ?_)
  refine wpAny_bind (wpAny_layCells _ (fun name kind cells => by cases hkc : kind == NameKind.cell <;> simp [hkc]) _ _ _ _ ?_)
  rw [List.forIn_nil]
  refine wpAny_bind (wpAny_pure (wpAny_pure ?_))
  rw [show ({ s with heap := s.heap.push { cls := .type "dict", data := .dict #[] } } : Shared).heap.objs.size = s.heap.objs.size + 1 from Heap.size_push ..]
  exact hQ

/-- the facts of a comprehension's new frame: h the heap in which the outer frame is known, g the heap behind the iterator -/
structure CF (env : Env) (h g : Heap) (names : List (Str × NameKind)) (scope : Scope) (D : Addr) (env' : Env) (Y : AS) (h₄ : Heap) : Prop where
  dnew : ¬ Alive g D
  above : ∀ b, Alive g b → b < D
  cnew : ¬ Alive g env'.locals
  dc : D ≠ env'.locals
  le : Le g h₄
  acc : IsL h₄ D [].toArray 0
  frame : Fr1 env' Y h₄ fun _ => none
  kind : env'.scope.kind = .function
  names : env'.scope.names = relN names scope.names
  globals : env'.globals = env.globals
  builtins : env'.builtins = env.builtins
  ynew : ∀ b, Y b → ¬ Alive g b
  dy : ¬ Y D
  yis : ∀ b, Y b → b = env'.locals ∨ ∃ x, env'.kindOf x = some .cell ∧ env'.cells.lookup x = some b
  own : ∀ x, scope.names.lookup x = some .local ∨ scope.names.lookup x = some .cell → Own env' Y x
  taken : ∀ x cv h', scope.names.lookup x = some .free → Loads env h x cv → Le h h' → Loads env' h' x cv
  cells : ∀ x, env'.kindOf x = some .cell ∨ env'.kindOf x = some .free → ∃ c, env'.cells.lookup x = some c ∧ Alive h₄ c ∧ (Y c ∨ Alive h c)

theorem all_lookup {ns : List (Str × NameKind)} {k : NameKind} (h : ns.all (fun p => p.2 != k || ns.lookup p.1 == some k) = true) {x : Str} (hx : (x, k) ∈ ns) : ns.lookup x = some k := by
  have := List.all_eq_true.mp h _ hx
  simpa using this

theorem relN_back {outer : List (Str × NameKind)} {x : Str} {k : NameKind} : ∀ {ns : List (Str × NameKind)}, (relN outer ns).lookup x = some k → ns.lookup x = some k ∨ (k = .cell ∧ ns.lookup x = some .free)
  | [], h => nomatch h
  | (n, j) :: r, h => by
    rw [relN] at h
    cases hx : x == n with
    | true =>
      by_cases hc : (j == .free && outer.lookup n == some .cell) = true
      · rw [if_pos hc, List.lookup_cons, hx] at h
        cases h
        rw [Bool.and_eq_true] at hc
        have : j = .free := by simpa using hc.1
        exact .inr ⟨rfl, by rw [List.lookup_cons, hx, this]⟩
      · rw [if_neg hc, List.lookup_cons, hx] at h
        cases h
        exact .inl (by rw [List.lookup_cons, hx])
    | false =>
      have h' : (relN outer r).lookup x = some k := by
        by_cases hc : (j == .free && outer.lookup n == some .cell) = true
        · rw [if_pos hc, List.lookup_cons, hx] at h; exact h
        · rw [if_neg hc, List.lookup_cons, hx] at h; exact h
      rw [List.lookup_cons, hx]
      exact relN_back h'

theorem pushCells_size_le : ∀ (names : List (Str × NameKind)) (h : Heap), h.objs.size ≤ (pushCells h names).objs.size
  | [], h => Nat.le_refl _
  | (_, k) :: r, h => by
    unfold pushCells
    split
    · have := pushCells_size_le r (h.push { cls := .type "cell", data := .cell none })
      rw [Heap.size_push] at this
      omega
    · exact pushCells_size_le r h

theorem nat3 {a b c : Nat} (h1 : a < b) (h2 : c ≤ a) (h3 : c = b + 1) : False := by omega
theorem nat3' {a b c : Nat} (h1 : a < b) (h2 : c + 1 ≤ a) (h3 : c = b + 1) : False := by omega
theorem nat4 {a b c : Nat} (h1 : a < b) (h3 : c = b + 1) : a < c + 1 := by omega
section
variable {W : Wd} {A : Around} {n : Nat} {X : AS} {env : Env} {h : Heap} {names : List (Str × NameKind)} {ρ : List (Str × PV)}

theorem compFrame (C : Cx W A n X env h names ρ) {scope : Scope} {xs : List Str} {E : Value → Shared → Prop} {s₂ : Shared} {RR : Value → Env → Shared → Prop}
    (hle : Le h s₂.heap) (hkind : scope.kind = .function) (hok : compOk names scope.names xs = true)
    (k : ∀ D env' Y h₄, CF env h s₂.heap names scope D env' Y h₄ → RR (.ref D) env' { s₂ with heap := h₄ }) :
    wpAny W.M A (newList []) (fun acc s₃ => wpAny W.M A (newFunctionEnv scope env.globals (closL env.cells scope.names []) [] env.qual none .none (some env)) (fun cenv s₄ => RR acc { cenv with scope := relabel scope env } s₄) E s₃) E s₂ := by
  simp only [compOk, Bool.and_eq_true] at hok
  obtain ⟨⟨⟨⟨⟨o1, o2⟩, o3⟩, o4⟩, o5⟩, o6⟩ := hok
  have hfreeK : ∀ x, (x, NameKind.free) ∈ scope.names → env.kindOf x = some .cell ∨ env.kindOf x = some .free := fun x hx => by
    have := List.all_eq_true.mp o2 _ hx
    unfold Env.kindOf
    rw [C.names]
    simpa using this
  have hfree : ∀ x ∈ scope.names, x.2 = .free → (env.cells.lookup x.1).isSome = true := fun ⟨x, kd⟩ hx e => by
    simp only at e
    subst e
    obtain ⟨c, hc, _⟩ := C.cells x (hfreeK x hx)
    exact (by rw [hc]; rfl)
  refine PySem.wpAny_newList (items := []) (wpAny_compEnv ?_) (by rw [sizeLine_eq]; exact Nat.zero_le _)
  dsimp only
  have rl : (relabel scope env).names = relN names scope.names := by
    show (scope.names.map fun x => if (x.2 == NameKind.free && env.scope.kind == .function && env.kindOf x.1 == some .cell) then (x.1, NameKind.cell) else (x.1, x.2)) = _
    rw [← relN_map]
    refine List.map_congr_left fun ⟨a, b⟩ _ => ?_
    have e1 : (env.scope.kind == ScopeKind.function) = true := by rw [C.kind]; rfl
    simp only [e1, Bool.and_true, Env.kindOf, C.names]
  generalize hH2 : s₂.heap.push { cls := .type "list", data := .seq ([] : List Value).toArray } = H2
  have hC : H2.objs.size = s₂.heap.objs.size + 1 := by rw [← hH2, Heap.size_push]
  have hsz : (H2.push { cls := .type "dict", data := .dict #[] }).objs.size = H2.objs.size + 1 := Heap.size_push ..
  have hlt : ∀ b : Nat, Alive s₂.heap b → b < s₂.heap.objs.size := fun b ⟨o, e⟩ => Heap.lt_size e
  have lk : ∀ (x : Str) (c : Nat), (x, NameKind.cell) ∈ scope.names → (cellsFrom (H2.objs.size + 1) scope.names (closL env.cells scope.names [])).lookup x = some c → H2.objs.size + 1 ≤ c := fun x c hx e => by
    obtain ⟨c', e', hc'⟩ := cellsFrom_mine (y := x) scope.names (H2.objs.size + 1) (closL env.cells scope.names []) hx
    rw [e] at e'; cases e'; exact hc'
  have clsub : ∀ x, (x, NameKind.free) ∈ scope.names → (closL env.cells scope.names []).lookup x = env.cells.lookup x := fun x hx => closL_lookup scope.names [] hfree (.inr hx)
  have memOf : ∀ {x : Str} {kd : NameKind}, scope.names.lookup x = some kd → (x, kd) ∈ scope.names := fun e => mem_of_lookup e
  have notCell : ∀ x, scope.names.lookup x = some .free → (x, NameKind.cell) ∉ scope.names := fun x e q => by
    have := all_lookup o4 q
    rw [e] at this; cases this
  refine k s₂.heap.objs.size _ (fun b => b = H2.objs.size ∨ ∃ x, (x, NameKind.cell) ∈ scope.names ∧ (cellsFrom (H2.objs.size + 1) scope.names (closL env.cells scope.names [])).lookup x = some b) _ ?_
  have hget : ∀ b o, H2.get? b = some o → (pushCells (H2.push { cls := .type "dict", data := .dict #[] }) scope.names).get? b = some o := fun b o e => pushCells_keeps _ _ b o (Heap.get?_push_of_some _ e)
  have old : ∀ b o, s₂.heap.get? b = some o → H2.get? b = some o := fun b o e => hH2 ▸ Heap.get?_push_of_some _ e
  have isC : ∀ x c, (x, NameKind.cell) ∈ scope.names → (cellsFrom (H2.objs.size + 1) scope.names (closL env.cells scope.names [])).lookup x = some c →
      (pushCells (H2.push { cls := .type "dict", data := .dict #[] }) scope.names).IsCell c none := fun x c hx e => by
    have := cellsFrom_isCell (n₀ := H2.objs.size + 1) scope.names (H2.push { cls := .type "dict", data := .dict #[] }) (closL env.cells scope.names []) (by rw [hsz]; exact Nat.le_refl _)
      (fun y d hy hd => False.elim ?_)
    · rw [hsz] at this
      exact this x c (mem_of_lookup e) (lk x c hx e)
    · rcases closL_mem scope.names [] hy with q | ⟨q, m⟩
      · cases q
      · obtain ⟨c', hc', al⟩ := C.cells y (hfreeK y m)
        rw [q] at hc'; cases hc'
        exact nat3' (hlt _ (al.mono hle)) hd hC
  have hCn : ¬ Alive s₂.heap H2.objs.size := fun q => by have := hlt _ q; omega
  have kOf : ∀ x kd, (relabel scope env).names.lookup x = some kd → scope.names.lookup x = some kd ∨ (kd = .cell ∧ scope.names.lookup x = some .free) := fun x kd e => relN_back (by rw [rl] at e; exact e)
  have capt : ∀ x, scope.names.lookup x = some .free → (cellsFrom (H2.objs.size + 1) scope.names (closL env.cells scope.names [])).lookup x = env.cells.lookup x := fun x e => by
    rw [cellsFrom_other scope.names _ _ (notCell x e)]
    exact clsub x (memOf e)
  have anyC : ∀ (x : Str) (c : Nat), (cellsFrom (H2.objs.size + 1) scope.names (closL env.cells scope.names [])).lookup x = some c → H2.objs.size ≤ c → (x, NameKind.cell) ∈ scope.names := fun x c e hc => by
    by_cases hm : (x, NameKind.cell) ∈ scope.names
    · exact hm
    · rw [cellsFrom_other scope.names _ _ hm] at e
      rcases closL_mem scope.names [] (mem_of_lookup e) with q | ⟨q, m⟩
      · cases q
      · obtain ⟨c', hc', al⟩ := C.cells x (hfreeK x m)
        rw [q] at hc'; cases hc'
        exact (nat3 (hlt _ (al.mono hle)) hc hC).elim
  refine ⟨fun q => Nat.lt_irrefl _ (hlt _ q), hlt, hCn, fun (q : s₂.heap.objs.size = H2.objs.size) => by omega, fun b o e => hget b o (old b o e), hget _ _ (hH2 ▸ Heap.get?_push_size _ rfl), ?_, hkind, rl, rfl, rfl, ?_, ?_, ?_, ?_, ?_, ?_⟩
  · refine ⟨⟨fun _ => none, (Heap.Ns.new H2 (.type "dict")).keeps (pushCells_keeps _ _), fun _ _ => rfl⟩, .inl rfl, fun x c e hy => ?_, fun x c hk e hy => ?_, fun x y c ex ey hy => ?_⟩
    · have hge : H2.objs.size ≤ (c : Nat) := hy.elim (fun q => Nat.le_of_eq q.symm) fun ⟨y, hy, ey⟩ => by have := lk y c hy ey; omega
      have := lk x c (anyC x c e hge) e
      exact fun q => absurd this (by rw [q]; exact Nat.not_succ_le_self _)
    · have hge : H2.objs.size ≤ (c : Nat) := hy.elim (fun q => Nat.le_of_eq q.symm) fun ⟨y, hy, ey⟩ => by have := lk y c hy ey; omega
      exact isC x c (anyC x c e hge) e
    · have hge : H2.objs.size ≤ (c : Nat) := hy.elim (fun q => Nat.le_of_eq q.symm) fun ⟨y, hy, ey⟩ => by have := lk y c hy ey; omega
      have hge' := lk x c (anyC x c ex hge) ex
      refine cellsFrom_apart (n₀ := H2.objs.size + 1) scope.names (H2.objs.size + 1) (closL env.cells scope.names []) (Nat.le_refl _) (fun p hp => ?_) (fun x y d hx _ hd => ?_) x y c (mem_of_lookup ex) (mem_of_lookup ey) hge'
      · rcases closL_mem (y := p.1) (d := p.2) scope.names [] hp with q | ⟨q, m⟩
        · cases q
        · obtain ⟨c', hc', al⟩ := C.cells p.1 (hfreeK _ m)
          rw [q] at hc'; cases hc'
          exact nat4 (hlt _ (al.mono hle)) hC
      · rcases closL_mem scope.names [] hx with q | ⟨q, m⟩
        · cases q
        · obtain ⟨c', hc', al⟩ := C.cells x (hfreeK _ m)
          rw [q] at hc'; cases hc'
          exact (nat3' (hlt _ (al.mono hle)) hd hC).elim
  · rintro b (rfl | ⟨x, hx, e⟩) q
    · exact hCn q
    · exact nat3' (hlt _ q) (lk x b hx e) hC
  · rintro (q | ⟨x, hx, e⟩)
    · have q' : s₂.heap.objs.size = H2.objs.size := q
      omega
    · have := lk x _ hx e
      omega
  · rintro b (q | ⟨x, hx, e⟩)
    · exact .inl q
    · refine .inr ⟨x, ?_, e⟩
      show (relabel scope env).names.lookup x = _
      rw [rl]
      rcases relN_lookup (outer := names) (all_lookup o4 hx) with q | ⟨q, _⟩
      · exact q
      · cases q
  · intro x hx
    rcases hx with hx | hx
    · refine .inl ?_
      show (relabel scope env).names.lookup x = _
      rw [rl]
      rcases relN_lookup (outer := names) hx with q | ⟨q, _⟩
      · exact q
      · cases q
    · obtain ⟨c, hc, _⟩ := cellsFrom_mine (y := x) scope.names (H2.objs.size + 1) (closL env.cells scope.names []) (memOf hx)
      refine .inr ⟨?_, c, hc, .inr ⟨x, memOf hx, hc⟩⟩
      show (relabel scope env).names.lookup x = _
      rw [rl]
      rcases relN_lookup (outer := names) hx with q | ⟨q, _⟩
      · exact q
      · cases q
  · intro x cv h' hx l kle
    rcases l with ⟨e, _⟩ | ⟨_, c, hc, hv⟩
    · rcases hfreeK x (memOf hx) with q | q <;> (rw [q] at e; cases e)
    · refine .inr ⟨?_, c, (capt x hx).trans hc, hv.keeps kle⟩
      show (relabel scope env).names.lookup x = _ ∨ (relabel scope env).names.lookup x = _
      rw [rl]
      rcases relN_lookup (outer := names) hx with q | ⟨_, q⟩
      · exact .inr q
      · exact .inl q
  · intro x hx
    have hx' : scope.names.lookup x = some .cell ∨ scope.names.lookup x = some .free := by
      rcases hx with q | q
      · rcases kOf x _ q with q | ⟨_, q⟩
        · exact .inl q
        · exact .inr q
      · rcases kOf x _ q with q | ⟨q, _⟩
        · exact .inr q
        · cases q
    rcases hx' with hx | hx
    · obtain ⟨c, hc, _⟩ := cellsFrom_mine (y := x) scope.names (H2.objs.size + 1) (closL env.cells scope.names []) (memOf hx)
      exact ⟨c, hc, let ⟨o, ho, _⟩ := isC x c (memOf hx) hc; ⟨o, ho⟩, .inl (.inr ⟨x, memOf hx, hc⟩)⟩
    · obtain ⟨c, hc, al⟩ := C.cells x (hfreeK x (memOf hx))
      exact ⟨c, (capt x hx).trans hc, ((al.mono hle).mono old).mono hget, .inr al⟩
end
end
section
open PySem PySem.Calls PyProof.Rows
section
variable {W : Wd} {A : Around} {n : Nat} {X : AS} {env : Env} {h : Heap} {names : List (Str × NameKind)} {ρ : List (Str × PV)}

theorem CF.le1 {g h₄ h₁ : Heap} {scope : Scope} {D : Addr} {env' : Env} {Y : AS} {wr : List Addr} (F : CF env h g names scope D env' Y h₄) (hle : Le h g) (hwr : ∀ b ∈ wr, ¬ Alive h b) (kept : KeptBut (fun b => Y b ∨ b = D ∨ b ∈ wr) h₄ h₁) : Le h h₁ := fun a o e => by
  have al : Alive h a := ⟨o, e⟩
  have alg : Alive g a := al.mono hle
  refine kept a o (fun q => ?_) (F.le a o (hle a o e))
  rcases q with q | q | q
  · exact F.ynew a q alg
  · exact F.dnew (q ▸ alg)
  · exact hwr a q al

theorem CF.yalive {g h₄ h₁ : Heap} {scope : Scope} {D : Addr} {env' : Env} {Y : AS} {m : Str → Option Value} (F : CF env h g names scope D env' Y h₄) (F₁ : Fr1 env' Y h₁ m) {a : Addr} (y : Y a) : Alive h₁ a := by
  rcases F.yis a y with q | ⟨x, hk, hc⟩
  · obtain ⟨ml, ⟨o, es, ep, ho, _⟩, _⟩ := F₁.ns
    exact ⟨o, q ▸ ho⟩
  · obtain ⟨o, ho, _⟩ := F₁.cell x a hk hc y
    exact ⟨o, ho⟩

theorem CF.cx (C : Cx W A n X env h names ρ) {g h₄ h₁ : Heap} {scope : Scope} {D : Addr} {env' : Env} {Y : AS} {wr : List Addr} {ρ' : List (Str × PV)} {xs : List Str} {vs : List Value} {row : List PV} {m : Str → Option Value}
    (F : CF env h g names scope D env' Y h₄) (hle : Le h g) (cap : Cap scope.names ρ ρ') (hok : compOk names scope.names xs = true) (hwr : ∀ b ∈ wr, ¬ Alive h b) (hwg : ∀ b ∈ wr, Alive g b)
    (F₁ : Fr1 env' Y h₁ (updAll m xs vs)) (kept : KeptBut (fun b => Y b ∨ b = D ∨ b ∈ wr) h₄ h₁) (hD : Alive h₁ D) (hrow : RepAll (fun a => X a ∨ a ∈ wr) g vs row) :
    Cx W A n (fun a => X a ∨ Y a ∨ a = D ∨ a ∈ wr) env' h₁ (relN names scope.names) (xs.zip row ++ ρ') := by
  have le1 := F.le1 hle hwr kept
  simp only [compOk, Bool.and_eq_true] at hok
  obtain ⟨⟨⟨⟨⟨o1, o2⟩, o3⟩, o4⟩, o5⟩, o6⟩ := hok
  refine ⟨⟨C.ok.room, C.ok.base.mono le1, fun a q => ?_⟩, F.kind, F.names, F.globals.trans C.globals, F.builtins.trans C.builtins, fun x v l => ?_, fun x q => ?_⟩
  · rcases q with q | q | q | q
    · obtain ⟨b, hb, al⟩ := C.ok.alive a q
      exact ⟨b, hb, al.mono le1⟩
    · exact ⟨a, Nat.le_refl _, F.yalive F₁ q⟩
    · exact ⟨D, Nat.le_of_eq q, hD⟩
    · exact ⟨D, Nat.le_of_lt (F.above a (hwg a q)), hD⟩
  · rcases l.append with l | l
    · obtain ⟨cv, e, r, hm⟩ := zip_look (m := m) l hrow (of_decide_eq_true o6)
      have ho : Own env' Y x := F.own x (by
        have := List.all_eq_true.mp o3 _ hm
        simpa using this)
      refine ⟨cv, F₁.loads ho e, ?_⟩
      have r' : Rep (fun a => X a ∨ Y a ∨ a = D ∨ a ∈ wr) g cv v := r.set fun a q al => by
        rcases q with q | q | q | q
        · exact .inl q
        · exact absurd al (F.ynew a q)
        · exact absurd (q ▸ al) F.dnew
        · exact .inr q
      exact r'.keep fun a o q e => kept a o (fun z => q (.inr z)) (F.le a o e)
    · obtain ⟨l', hx⟩ := cap.look l
      obtain ⟨cv, ld, r⟩ := C.vars x v l'
      refine ⟨cv, F.taken x cv h₁ hx ld le1, ?_⟩
      have r' : Rep (fun a => X a ∨ Y a ∨ a = D ∨ a ∈ wr) h cv v := r.set fun a q al => by
        rcases q with q | q | q | q
        · exact q
        · exact absurd (al.mono hle) (F.ynew a q)
        · exact absurd (q ▸ al.mono hle) F.dnew
        · exact absurd al (hwr a q)
      exact r'.mono le1
  · obtain ⟨c, hc, al, y⟩ := F.cells x q
    refine ⟨c, hc, y.elim (fun y => F.yalive F₁ y) fun al => al.mono le1⟩

/-- what a turn adds -/
noncomputable def outOf (b : Bool) (v : PV) : List PV := if b = true then [v] else []

/-- an expression whose str is not older than its evaluation's end -/
noncomputable def EvK (K : Prop) (W : Wd) (A : Around) (X : AS) (env : Env) (h : Heap) (e : Expr) (v : PV) : Prop :=
  ∀ (s : Shared) (Q : Value → Shared → Prop) (E : Value → Shared → Prop), LeW W.lo h s → (∀ cv h' tk', LeW W.lo s.heap { s with heap := h', toks := tk' } → Rep X h' cv v → (K → TokOk tk' cv) → Q cv { s with heap := h', toks := tk' }) → wpAny W.M A (eval e env) Q E s
theorem Ev.evK {e : Expr} {v : PV} (x : Ev W A X env h e v) : EvK False W A X env h e v := fun s Q E k p => x s Q E k fun cv h' tk' k' r => p cv h' tk' k' r False.elim

theorem comp_list (K : Prop) {elt target iter : Expr} {ifs : List Expr} {scope : Scope} {pos : Pos} {xs : List Str} {rows outs : List (List PV)} {ρ' : List (Str × PV)} {RR : Value → Addr → Result → Shared → Prop} {E : Value → Shared → Prop} {s s₂ : Shared}
    (C : Cx W A n X env h names ρ) (hle : Le h s.heap) (hle₂ : Le s.heap s₂.heap) (hlo : W.lo ≤ s₂.toks) (cap : Cap scope.names ρ ρ') (hkind : scope.kind = .function) (hok : compOk names scope.names xs = true)
    {I : Addr} {fp wr : List Addr} {N : Nat} {Bv : Nat → List Value → Prop} {St : Nat → Heap → Prop} (T : Tn W A target xs I fp wr N Bv St) (hN : rows.length = N) (hB : ∀ i vs row, Bv i vs → rows[i]? = some row → RepAll (fun a => X a ∨ a ∈ wr) s₂.heap vs row)
    (hst : St 0 s₂.heap) (hfp : ∀ b ∈ fp, Alive s₂.heap b ∧ ¬ X b) (hwr : ∀ b ∈ wr, ¬ Alive s.heap b) (hlen : outs.length = rows.length) (htot : outs.flatten.length ≤ 100000)
    (body : ∀ (i : Nat) (row out : List PV), rows[i]? = some row → outs[i]? = some out → ∀ X' env' h', Cx W A n X' env' h' (relN names scope.names) (xs.zip row ++ ρ') →
      ∃ b v, out = outOf b v ∧ EvIfs W A env' h' ifs b ∧ (b = true → EvK K W A X' env' h' elt v))
    (hRR : ∀ D Cc h' tk', W.lo ≤ tk' → D ≠ Cc → (∀ b, Alive s₂.heap b → b < D) → ¬ Alive s₂.heap Cc → (∃ ml, h'.Ns Cc ml) → (∃ vs nn, IsL h' D vs.toArray nn ∧ RepAll (fun a => X a ∨ a = Cc) h' vs outs.flatten ∧ (K → ∀ v ∈ vs, TokOk tk' v)) → Le s.heap h' → RR (.ref D) Cc (.ok .next) { s₂ with heap := h', toks := tk' }) :
    wpAny W.M A (newList []) (fun acc s₃ => wpAny W.M A (newFunctionEnv scope env.globals (closL env.cells scope.names []) [] env.qual none .none (some env)) (fun cenv s₄ =>
      codeAny W.M A (.compStart (.ListComp elt [⟨target, iter, ifs, 0⟩] scope pos) 0 (.ref I) acc { cenv with scope := relabel scope env }) (RR acc cenv.locals) s₄) E s₃) E s₂ := by
  have hle₀ : Le h s₂.heap := hle.trans hle₂
  have hwh : ∀ b ∈ wr, ¬ Alive h b := fun b q al => hwr b q (al.mono hle)
  refine compFrame (RR := fun acc env' s₄ => codeAny W.M A (.compStart (.ListComp elt [⟨target, iter, ifs, 0⟩] scope pos) 0 (.ref I) acc env') (RR acc env'.locals) s₄) C hle₀ hkind hok fun D env' Y h₄ F => ?_
  have fpY : ∀ b ∈ fp, ¬ Y b := fun b q y => F.ynew b y (hfp b q).1
  have fpD : D ∉ fp := fun q => F.dnew (hfp D q).1
  have st₄ : St 0 h₄ := T.frame _ _ _ hst fun b q o e => F.le b o e
  have loop : codeAny W.M A (.compLoop (.ListComp elt [⟨target, iter, ifs, 0⟩] scope pos) 0 (.ref I) (.ref D) env') (RR (.ref D) env'.locals) { s₂ with heap := h₄ } := by
    refine compLoop_core (K := K) (X := fun a => X a ∨ Y a ∨ a = D ∨ a ∈ wr) (TAIL := (do let _ ← call (.builtin "list.append") [.ref D, ← eval elt env'])) (compTurn_list elt target iter ifs scope pos (.ref I) (.ref D) env') rfl rfl (Around.under_of_weight rfl)
      T F.kind (fun x hx => F.own x ?_) fpY fpD F.dy (fun b y => .inr (.inl y)) (fun b q => .inr (.inr (.inr q))) outs (hlen.trans hN) ?_ st₄ hlo [] (by simpa using htot) ⟨⟨[], 0, F.acc, .nil, fun _ v hv => nomatch hv⟩, _, F.frame⟩ ?_
    · simp only [compOk, Bool.and_eq_true] at hok
      obtain ⟨⟨⟨⟨⟨o1, o2⟩, o3⟩, o4⟩, o5⟩, o6⟩ := hok
      have := List.all_eq_true.mp o3 _ hx
      simpa using this
    · intro i vs out s₁ m hBv hvl hout F₁ kept Q E' l hl hlo₁ c q
      have hi : i < rows.length := by
        have := (List.getElem?_eq_some_iff.mp hout).1
        omega
      obtain ⟨row, hrow⟩ : ∃ row, rows[i]? = some row := ⟨rows[i], List.getElem?_eq_getElem hi⟩
      have hDal : Alive s₁.heap D := let ⟨vs, nn, i, _, _⟩ := c.acc; ⟨_, i⟩
      have C' := CF.cx (n := n) (ρ' := ρ') (xs := xs) (row := row) C F hle₀ cap hok hwh (fun b q => (hfp b (T.sub b q)).1) F₁ kept hDal (hB i vs row hBv hrow)
      obtain ⟨b, v, rfl, hifs, helt⟩ := body i row out hrow hout _ _ _ C'
      refine wpAny_toks (hifs s₁ _ _ (.refl hlo₁) fun h₂ tk₂ k₂' => fun ht₂ => ?_)
      have k₂ := k₂'.le
      have cx : ∀ b, Y b → (X b ∨ Y b ∨ b = D ∨ b ∈ wr) := fun b y => .inr (.inl y)
      have c₂ : CInv K tk₂ (fun a => X a ∨ Y a ∨ a = D ∨ a ∈ wr) env' Y D h₂ l := c.keep cx (.inr (.inr (.inl rfl))) ht₂ k₂
      cases b with
      | false =>
        simp only [Bool.false_eq_true, if_false]
        exact q h₂ tk₂ k₂'.lo (by simpa [outOf] using c₂) k₂.kept
      | true =>
        simp only [if_true]
        refine wpAny_bind (wpAny_toks (helt rfl _ _ _ k₂' fun cv h₃ tk₃ k₃' r₃ tok₃ => fun ht₃ => wpAny_bind ?_))
        have k₃ := k₃'.le
        have c₃ := c₂.keep cx (.inr (.inr (.inl rfl))) ht₃ k₃
        obtain ⟨⟨ws, nn, il, rl, hq⟩, m', fr⟩ := c₃
        have hwl := rl.length
        refine wpAny_list_append_plain (items := ws.toArray) ⟨nn, il⟩ (fun h₅ hl₅ hs₅ => wpAny_pure ?_) (by rw [List.size_toArray, sizeLine_eq]; omega)
        obtain ⟨n₅, il₅⟩ := hl₅
        refine q h₅ tk₃ k₃'.lo ⟨⟨ws ++ [cv], n₅, by simpa using il₅, ?_, fun z v hv => ?_⟩, m', fr.keep fun a o y e => hs₅.extBut a o (fun z => F.dy (z ▸ y)) e⟩ fun b o z e => hs₅.extBut b o (fun w => z (.inr w)) (k₃ b o (k₂ b o e))
        exact (rl.append (.cons r₃ .nil)).keep fun a o z e => hs₅.extBut a o (fun w => z (.inr (.inr (.inl w)))) e
        · rcases List.mem_append.mp hv with hv | hv
          · exact hq z v hv
          · rw [List.mem_singleton.mp hv]; exact tok₃ z
    · intro h' tk' hlo' c kept
      have le' : Le s.heap h' := fun a o e => by
        have al : Alive s.heap a := ⟨o, e⟩
        refine kept a o (fun q => ?_) (F.le a o (hle₂ a o e))
        rcases q with q | q | q
        · exact F.ynew a q (al.mono hle₂)
        · exact F.dnew (q ▸ al.mono hle₂)
        · exact hwr a q al
      obtain ⟨⟨ws, nn, il, rl, hq⟩, m', fr⟩ := c
      obtain ⟨ml, hn, _⟩ := fr.ns
      refine hRR D env'.locals h' tk' hlo' F.dc F.above F.cnew ⟨ml, hn⟩ ⟨ws, nn, il, ?_, hq⟩ le'
      have rl' : RepAll (fun a => X a ∨ Y a ∨ a = D ∨ a ∈ wr) h' ws outs.flatten := by simpa using rl
      exact rl'.set fun a q _ => q.elim .inl fun q => .inr (.inl (q ▸ fr.yl))
  exact codeAny_compStart_list loop (T.self 0 _ _ _ st₄ loop)

theorem Ev.comp {elt target iter : Expr} {ifs : List Expr} {scope : Scope} {pos : Pos} {xs : List Str} {rows outs : List (List PV)} {ρ' : List (Str × PV)}
    (C : Cx W A n X env h names ρ) (hit : EvIter W A X env h iter target xs rows) (cap : Cap scope.names ρ ρ') (hok : compOk names scope.names xs = true)
    (hlen : outs.length = rows.length) (htot : outs.flatten.length ≤ 100000)
    (body : ∀ (i : Nat) (row out : List PV), rows[i]? = some row → outs[i]? = some out → ∀ X' env' h', Cx W A n X' env' h' (relN names scope.names) (xs.zip row ++ ρ') →
      ∃ b v, out = outOf b v ∧ EvIfs W A env' h' ifs b ∧ (b = true → Ev W A X' env' h' elt v))
    (hkind : scope.kind = .function := by rfl) (hs : ∀ x, foldedSetIterable iter env x = pure x := by intro _; rfl) :
    Ev W A X env h (.ListComp elt [⟨target, iter, ifs, 0⟩] scope pos) (.list outs.flatten) := fun s Q E k p => by
  have hok' := hok
  simp only [compOk, Bool.and_eq_true] at hok
  obtain ⟨⟨⟨⟨⟨o1, o2⟩, o3⟩, o4⟩, o5⟩, o6⟩ := hok
  rw [eval_ListComp]
  refine wpAny_comprehension_free (use := none) (cl := closL env.cells scope.names []) rfl hs (closureFor_is fun ⟨x, kd⟩ hx e => ?_) hkind (fun ⟨x, kd⟩ hx e => ?_) ?_
  · simp only at e
    subst e
    have := List.all_eq_true.mp o2 _ hx
    obtain ⟨c, hc, _⟩ := C.cells x (by unfold Env.kindOf; rw [C.names]; simpa using this)
    exact (by rw [hc]; rfl)
  · simp only at e
    subst e
    exact all_lookup o1 hx
  · refine hit s _ E k fun I fp wr Bv St h' tk' k₂' T hB hst hfp hwr => ?_
    have k₂ := k₂'.le
    refine comp_list False (s := s) (s₂ := { s with heap := h', toks := tk' }) (RR := fun acc Cc => compPost W.M A E none Q acc Cc) C k.le k₂ k₂'.lo cap hkind hok' T rfl hB hst hfp hwr hlen htot (fun i row out hr ho X' env' h' C' => let ⟨b, v, e, hi, hv⟩ := body i row out hr ho X' env' h' C'; ⟨b, v, e, hi, fun q => (hv q).evK⟩) ?_
    rintro D Cc h₃ tk₃ hlo₃ hdc hd hc ⟨ml, hn⟩ ⟨vs, nn, il, rl, _⟩ le₃
    refine ⟨ml, hn, fun h₄ hs₄ => p (.ref D) h₄ tk₃ ⟨fun a o e => hs₄.extBut a o (fun q => hc ⟨o, q ▸ k₂ a o e⟩) (le₃ a o e), hlo₃⟩ (.list (n := nn) (vs := vs) (fun x => ?_) (hs₄.extBut _ _ hdc il) ?_)⟩
    · have O := (C.ok.mono k.le).mono k₂
      obtain ⟨b, hb, al⟩ := O.alive D x
      exact absurd (hd b al) (Nat.not_lt.mpr hb)
    · exact (rl.keep fun a o q e => hs₄.extBut a o (fun z => q (.inr z)) e).set fun a q _ => .inl q
end
end
section
open PySem PySem.Calls PyProof.Rows
section
variable {W : Wd} {A : Around} {n : Nat} {X : AS} {env : Env} {h : Heap} {names : List (Str × NameKind)} {ρ : List (Str × PV)}

theorem rows_one {l : List PV} {i : Nat} {row : List PV} (e : (l.map fun v => [v])[i]? = some row) : ∃ v, l[i]? = some v ∧ row = [v] := by
  rw [List.getElem?_map] at e
  cases hv : l[i]? with
  | none => rw [hv] at e; cases e
  | some v => rw [hv] at e; exact ⟨v, rfl, (Option.some.inj e).symm⟩

theorem EvIter.list (C : Cx W A n X env h names ρ) {iter : Expr} {x : Str} {px : Pos} {l : List PV} (he : Ev W A X env h iter (.list l)) : EvIter W A X env h iter (.Name x px) [x] (l.map fun v => [v]) := fun s K E k q => by
  refine he s _ E k fun cv h₁ tk₁ k₁ r₁ => ?_
  have O := (C.ok.mono k.le).mono k₁.le
  obtain ⟨a, rfl, vs, m, na, ia, r⟩ := Rep.listI r₁
  have hL := ia.isList
  have hne : a ≠ h₁.objs.size := Nat.ne_of_lt (Heap.lt_size ia)
  have hlen := r.length
  refine wpAny_pyIter_list hL (q h₁.objs.size [h₁.objs.size, a] [h₁.objs.size] (fun i ws => ∃ v, ws = [v] ∧ vs.toArray[i]? = some v) (fun i g => g.IsListIter h₁.objs.size a i ∧ g.IsList a vs.toArray) _ _ (k₁.more (Le.push _ _)) ?_ (fun i ws row hB hr => ?_) ?_ (fun b hb => ?_) (fun b hb => ?_))
  · have T := Tn.name (W := W) (x := x) (px := px) (Walks.list (prog := W.prog) (w := W.w) C.ok.room.handled h₁.objs.size a hne vs.toArray) (fun i g st b hb => by rw [List.mem_singleton.mp hb]; obtain ⟨o, ho, _⟩ := st.1; exact ⟨o, ho⟩)
    have e : vs.toArray.size = (l.map fun v => [v]).length := by simp [hlen]
    rw [e] at T
    exact T
  · obtain ⟨v, rfl, hv⟩ := hB
    obtain ⟨p, hp, rfl⟩ := rows_one hr
    have hv' : vs[i]? = some v := by simpa using hv
    obtain ⟨p', hp', rp⟩ := r.get' hv'
    rw [hp] at hp'; cases hp'
    exact .cons ((rp.set (X' := fun c => X c ∨ c ∈ [h₁.objs.size]) fun c z al => z.elim id fun z => by
      rw [List.mem_singleton.mp z] at al
      obtain ⟨o, e⟩ := al
      rw [get_size] at e; cases e).mono (Le.push _ _)) .nil
  · exact ⟨⟨_, Heap.get?_push_size _ rfl, rfl, rfl⟩, hL.push _⟩
  · rcases List.mem_cons.mp hb with rfl | hb
    · exact ⟨⟨_, Heap.get?_push_size _ rfl⟩, O.new⟩
    · rw [List.mem_singleton.mp hb]
      exact ⟨⟨_, Heap.get?_push_of_some _ ia⟩, na⟩
  · rw [List.mem_singleton.mp hb]
    exact fun al => by
      obtain ⟨o, e⟩ := al.mono k₁.le
      rw [get_size] at e; cases e

theorem IsT.isTuple {h : Heap} {t : Addr} {items : Array Value} {n : Nat} (x : IsT h t items n) : h.IsTuple t items := ⟨_, x, rfl, n, rfl⟩

theorem EvIter.tuple (C : Cx W A n X env h names ρ) {iter : Expr} {x : Str} {px : Pos} {l : List PV} (he : Ev W A X env h iter (.tuple l)) : EvIter W A X env h iter (.Name x px) [x] (l.map fun v => [v]) := fun s K E k q => by
  refine he s _ E k fun cv h₁ tk₁ k₁ r₁ => ?_
  have O := (C.ok.mono k.le).mono k₁.le
  obtain ⟨a, rfl, vs, m, na, ia, r⟩ := Rep.tupleI r₁
  have hL := IsT.isTuple ia
  have hne : a ≠ h₁.objs.size := Nat.ne_of_lt (Heap.lt_size ia)
  have hlen := r.length
  refine wpAny_pyIter_tuple hL (q h₁.objs.size [h₁.objs.size, a] [h₁.objs.size] (fun i ws => ∃ v, ws = [v] ∧ vs.toArray[i]? = some v) (fun i g => g.IsTupleIter h₁.objs.size a i ∧ g.IsTuple a vs.toArray) _ _ (k₁.more (Le.push _ _)) ?_ (fun i ws row hB hr => ?_) ?_ (fun b hb => ?_) (fun b hb => ?_))
  · have T := Tn.name (W := W) (x := x) (px := px) (Walks.tuple (prog := W.prog) (w := W.w) C.ok.room.handled h₁.objs.size a hne vs.toArray) (fun i g st b hb => by rw [List.mem_singleton.mp hb]; obtain ⟨o, ho, _⟩ := st.1; exact ⟨o, ho⟩)
    have e : vs.toArray.size = (l.map fun v => [v]).length := by simp [hlen]
    rw [e] at T
    exact T
  · obtain ⟨v, rfl, hv⟩ := hB
    obtain ⟨p, hp, rfl⟩ := rows_one hr
    have hv' : vs[i]? = some v := by simpa using hv
    obtain ⟨p', hp', rp⟩ := r.get' hv'
    rw [hp] at hp'; cases hp'
    exact .cons ((rp.set (X' := fun c => X c ∨ c ∈ [h₁.objs.size]) fun c z al => z.elim id fun z => by
      rw [List.mem_singleton.mp z] at al
      obtain ⟨o, e⟩ := al
      rw [get_size] at e; cases e).mono (Le.push _ _)) .nil
  · exact ⟨⟨_, Heap.get?_push_size _ rfl, rfl, rfl⟩, hL.push _⟩
  · rcases List.mem_cons.mp hb with rfl | hb
    · exact ⟨⟨_, Heap.get?_push_size _ rfl⟩, O.new⟩
    · rw [List.mem_singleton.mp hb]
      exact ⟨⟨_, Heap.get?_push_of_some _ ia⟩, na⟩
  · rw [List.mem_singleton.mp hb]
    exact fun al => by
      obtain ⟨o, e⟩ := al.mono k₁.le
      rw [get_size] at e; cases e

/-- flat values' rows, drawn by an iterator with one cell of its own -/
theorem EvIter.flatWalk (C : Cx W A n X env h names ρ) {s s₁ : Shared} {x : Str} {px : Pos} {rows : List (List PV)} {K : Value → Shared → Prop} {o : Obj} {P : Nat → Value → Prop} {St : Nat → Heap → Prop} {tk : Nat}
    (k : LeW W.lo h s) (k₁ : LeW W.lo s.heap s₁) (hlo : W.lo ≤ tk) (hs : ∃ t₁, s₁ = { s with heap := s₁.heap, toks := t₁ })
    (q : ∀ I fp wr Bv St h' tk', LeW W.lo s.heap { s with heap := h', toks := tk' } → Tn W A (.Name x px) [x] I fp wr rows.length Bv St → (∀ i vs row, Bv i vs → rows[i]? = some row → RepAll (fun a => X a ∨ a ∈ wr) h' vs row) → St 0 h' → (∀ b ∈ fp, Alive h' b ∧ ¬ X b) → (∀ b ∈ wr, ¬ Alive s.heap b) →
      K (.ref I) { s with heap := h', toks := tk' })
    (hw : Walks W.prog W.w A s₁.heap.objs.size [s₁.heap.objs.size] [s₁.heap.objs.size] rows.length P St) (hst : St 0 (s₁.heap.push o)) (hf : o.isFreed = false) (hal : ∀ i h, St i h → Alive h s₁.heap.objs.size)
    (hP : ∀ i v row, P i v → rows[i]? = some row → ∃ p, row = [p] ∧ p.flat = true ∧ Rep (fun _ => False) s₁.heap v p) : K (.ref s₁.heap.objs.size) { s₁ with heap := s₁.heap.push o, toks := tk } := by
  obtain ⟨t₁, hs⟩ := hs
  have O := (C.ok.mono k.le).mono k₁.le
  have e : ({ s₁ with heap := s₁.heap.push o, toks := tk } : Shared) = { s with heap := s₁.heap.push o, toks := tk } := by rw [hs]
  rw [e]
  refine q _ _ _ (fun i vs => ∃ v, vs = [v] ∧ P i v) St _ _ ⟨k₁.le.trans (Le.push _ _), hlo⟩ (Tn.name hw fun i g st b hb => by rw [List.mem_singleton.mp hb]; exact hal i g st) (fun i ws row hB hr => ?_) hst (fun b hb => ?_) fun b hb => ?_
  · obtain ⟨v, rfl, hv⟩ := hB
    obtain ⟨p, rfl, hfl, rp⟩ := hP i v row hv hr
    exact .cons (rp.flat hfl) .nil
  · rw [List.mem_singleton.mp hb]
    exact ⟨⟨_, Heap.get?_push_size _ hf⟩, O.new⟩
  · rw [List.mem_singleton.mp hb]
    exact fun al => by
      obtain ⟨o, e⟩ := al.mono k₁.le
      rw [get_size] at e; cases e

noncomputable def SignIs (lo : Nat) (x : Str) (i : Nat) (vs : List Value) : Prop := ∃ c u, x.cps[i]? = some c ∧ vs = [.str ⟨#[c]⟩ u] ∧ lo ≤ u
theorem Tn.strAscii {x : Str} {px : Pos} (hh : A.handled = none) (I : Addr) (v : Str) (t : Tok) : Tn W A (.Name x px) [x] I [I] [I] v.cps.size (SignIs W.lo v) (fun i h => h.IsStrIter I "str_ascii_iterator" v t i) where
  sub := fun _ hb => hb
  frame := fun _ _ _ st hk => let ⟨o, ho, r⟩ := st; ⟨o, hk I (by simp) o ho, r⟩
  item := fun env i s Kn Q E hi st lo q => by
    refine wpAny_pyNext_ascii_item st (c := v.cps[i]) (by simp [hi]) fun h' hit' hs' => ?_
    exact wpAny_pure (PySem.wpAny_assign_Name (q _ h' (s.toks + 1) (Nat.le_succ _) ⟨_, _, by simp [hi], rfl, lo⟩ rfl hit' fun b o hb e => hs'.extBut b o (fun h => hb (by simp [h])) e))
  alive := fun i h st b hb => by rw [List.mem_singleton.mp hb]; obtain ⟨o, ho, _⟩ := st; exact ⟨o, ho⟩
  done := fun s Q E st q => wpAny_pyNext_ascii_end hh st (by simp) fun h' he' => q h' s.toks (Nat.le_refl _) fun b o hb e => he' b o (fun h => hb (by simp [h])) e
  self := fun _ _ _ _ st hQ => wpAny_pyIter_striter_ascii st hQ
theorem Tn.strWide {x : Str} {px : Pos} (hh : A.handled = none) (I : Addr) (v : Str) (t : Tok) : Tn W A (.Name x px) [x] I [I] [I] v.cps.size (SignIs W.lo v) (fun i h => h.IsStrIter I "str_iterator" v t i) where
  sub := fun _ hb => hb
  frame := fun _ _ _ st hk => let ⟨o, ho, r⟩ := st; ⟨o, hk I (by simp) o ho, r⟩
  item := fun env i s Kn Q E hi st lo q => by
    refine wpAny_pyNext_wide_item st (c := v.cps[i]) (by simp [hi]) fun h' hit' hs' => ?_
    exact wpAny_pure (PySem.wpAny_assign_Name (q _ h' (s.toks + 1) (Nat.le_succ _) ⟨_, _, by simp [hi], rfl, lo⟩ rfl hit' fun b o hb e => hs'.extBut b o (fun h => hb (by simp [h])) e))
  alive := fun i h st b hb => by rw [List.mem_singleton.mp hb]; obtain ⟨o, ho, _⟩ := st; exact ⟨o, ho⟩
  done := fun s Q E st q => wpAny_pyNext_wide_end hh st (by simp) fun h' he' => q h' s.toks (Nat.le_refl _) fun b o hb e => he' b o (fun h => hb (by simp [h])) e
  self := fun _ _ _ _ st hQ => wpAny_pyIter_striter_wide st hQ

/-- a str's signs: their tokens are not older than lo -/
theorem EvIter.strP (C : Cx W A n X env h names ρ) {iter : Expr} {x : Str} {px : Pos} {v : Str} (he : Ev W A X env h iter (.str v)) : EvIter W A X env h iter (.Name x px) [x] (v.cps.toList.map fun c => [.strP (fun t => W.lo ≤ t) ⟨#[c]⟩]) := fun s K E k q => by
  refine he s _ E k fun cv h₁ tk₁ k₁ r₁ => ?_
  obtain ⟨_, rfl⟩ := Rep.strI r₁
  have O := (C.ok.mono k.le).mono k₁.le
  have e : v.cps.size = (v.cps.toList.map fun c => ([.strP (fun t => W.lo ≤ t) ⟨#[c]⟩] : List PV)).length := by simp
  have hP : ∀ i ws row, SignIs W.lo v i ws → (v.cps.toList.map fun c => ([.strP (fun t => W.lo ≤ t) ⟨#[c]⟩] : List PV))[i]? = some row → ∀ X' h', RepAll X' h' ws row := fun i ws row hP hr X' h' => by
    obtain ⟨c, u, hc, rfl, hu⟩ := hP
    rw [List.getElem?_map, Array.getElem?_toList, hc] at hr
    cases hr
    exact .cons (.strP _ _ hu) .nil
  have fin : ∀ (St : Nat → Heap → Prop) (o : Obj), o.isFreed = false → St 0 (h₁.push o) → Tn W A (.Name x px) [x] h₁.objs.size [h₁.objs.size] [h₁.objs.size] v.cps.size (SignIs W.lo v) St → K (.ref h₁.objs.size) { s with heap := h₁.push o, toks := tk₁ } := fun St o hf st T => by
    rw [e] at T
    refine q _ _ _ _ _ _ _ (k₁.more (Le.push _ _)) T (fun i ws row hB hr => hP i ws row hB hr _ _) st (fun b hb => ?_) fun b hb => ?_
    · rw [List.mem_singleton.mp hb]
      exact ⟨⟨_, Heap.get?_push_size _ hf⟩, O.new⟩
    · rw [List.mem_singleton.mp hb]
      exact fun al => by
        obtain ⟨o, e⟩ := al.mono k₁.le
        rw [get_size] at e; cases e
  cases ha : v.cps.all (· < 128)
  · exact wpAny_pyIter_wide ha (fin _ _ rfl ⟨_, Heap.get?_push_size _ rfl, rfl, rfl⟩ (Tn.strWide C.ok.room.handled _ v _))
  · exact wpAny_pyIter_ascii ha (fin _ _ rfl ⟨_, Heap.get?_push_size _ rfl, rfl, rfl⟩ (Tn.strAscii C.ok.room.handled _ v _))

theorem EvIter.str (C : Cx W A n X env h names ρ) {iter : Expr} {x : Str} {px : Pos} {v : Str} (he : Ev W A X env h iter (.str v)) : EvIter W A X env h iter (.Name x px) [x] (v.cps.toList.map fun c => [.str ⟨#[c]⟩]) := fun s K E k q => by
  refine he s _ E k fun cv h₁ tk₁ k₁ r₁ => ?_
  obtain ⟨_, rfl⟩ := Rep.strI r₁
  have e : v.cps.size = (v.cps.toList.map fun c => ([.str ⟨#[c]⟩] : List PV)).length := by simp
  have hP : ∀ i u row, SignAt v i u → (v.cps.toList.map fun c => ([.str ⟨#[c]⟩] : List PV))[i]? = some row → ∃ p, row = [p] ∧ p.flat = true ∧ Rep (fun _ => False) h₁ u p := fun i u row hP hr => by
    obtain ⟨c, u, hc, rfl⟩ := hP
    rw [List.getElem?_map, Array.getElem?_toList, hc] at hr
    cases hr
    exact ⟨_, rfl, rfl, .str _ _⟩
  cases ha : v.cps.all (· < 128)
  · refine wpAny_pyIter_wide ha ?_
    have T := Walks.strWide (prog := W.prog) (w := W.w) C.ok.room.handled h₁.objs.size v ‹Tok›
    rw [e] at T
    exact EvIter.flatWalk (s₁ := { s with heap := h₁, toks := tk₁ }) C k k₁ k₁.lo ⟨_, rfl⟩ q T ⟨_, Heap.get?_push_size _ rfl, rfl, rfl⟩ rfl (fun i g st => let ⟨o, ho, _⟩ := st; ⟨o, ho⟩) hP
  · refine wpAny_pyIter_ascii ha ?_
    have T := Walks.strAscii (prog := W.prog) (w := W.w) C.ok.room.handled h₁.objs.size v ‹Tok›
    rw [e] at T
    exact EvIter.flatWalk (s₁ := { s with heap := h₁, toks := tk₁ }) C k k₁ k₁.lo ⟨_, rfl⟩ q T ⟨_, Heap.get?_push_size _ rfl, rfl, rfl⟩ rfl (fun i g st => let ⟨o, ho, _⟩ := st; ⟨o, ho⟩) hP

theorem rangeRows {a c : Int} {N i : Nat} {v : Value} {row : List PV} {g : Heap} (hP : ∃ t, v = Value.int (a + (i : Nat) * c) t) (hr : ((List.range N).map fun i => ([.int (a + (i : Nat) * c)] : List PV))[i]? = some row) :
    ∃ p, row = [p] ∧ p.flat = true ∧ Rep (fun _ => False) g v p := by
  obtain ⟨t, rfl⟩ := hP
  rw [List.getElem?_map] at hr
  by_cases hi : i < N
  · rw [List.getElem?_range hi] at hr
    cases hr
    exact ⟨_, rfl, rfl, .int _ _⟩
  · rw [List.getElem?_eq_none (by simpa using hi)] at hr
    cases hr

theorem rangeWalk (C : Cx W A n X env h names ρ) {s : Shared} {H : Heap} {x : Str} {px : Pos} {a c : Int} {N : Nat} {K : Value → Shared → Prop} {tk : Nat} (k : LeW W.lo h s) (k₁ : LeW W.lo s.heap { s with heap := H, toks := tk })
    (q : ∀ I fp wr Bv St h' tk', LeW W.lo s.heap { s with heap := h', toks := tk' } → Tn W A (.Name x px) [x] I fp wr ((List.range N).map fun i => ([.int (a + (i : Nat) * c)] : List PV)).length Bv St →
      (∀ (i : Nat) vs row, Bv i vs → ((List.range N).map fun i => ([.int (a + (i : Nat) * c)] : List PV))[i]? = some row → RepAll (fun a => X a ∨ a ∈ wr) h' vs row) → St 0 h' → (∀ b ∈ fp, Alive h' b ∧ ¬ X b) → (∀ b ∈ wr, ¬ Alive s.heap b) →
      K (.ref I) { s with heap := h', toks := tk' }) :
    K (.ref H.objs.size) { s with heap := H.push { cls := .type "range_iterator", data := .fields #[rawInt a, rawInt N, rawInt c] }, toks := tk } := by
  have T := Walks.range (prog := W.prog) (w := W.w) C.ok.room.handled H.objs.size a c N
  have e : N = ((List.range N).map fun i => ([.int (a + (i : Nat) * c)] : List PV)).length := by simp
  refine EvIter.flatWalk (s₁ := { s with heap := H, toks := tk }) (rows := (List.range N).map fun i => ([.int (a + (i : Nat) * c)] : List PV)) (P := fun i v => ∃ t, v = .int (a + (i : Nat) * c) t) (St := fun i h => IsRangeIter h H.objs.size (a + (i : Nat) * c) ((N : Int) - (i : Nat)) c) C k k₁ k₁.lo ⟨_, rfl⟩ q (by rw [← e]; exact T) ?_ rfl (fun i g st => ⟨_, st⟩) fun i v row hP hr => rangeRows hP hr
  show IsRangeIter _ _ (a + ((0 : Nat) : Int) * c) ((N : Int) - ((0 : Nat) : Int)) c
  have e1 : (a + ((0 : Nat) : Int) * c) = a := by simp
  have e2 : ((N : Int) - ((0 : Nat) : Int)) = (N : Int) := by simp
  rw [e1, e2]
  exact Heap.get?_push_size _ rfl

/-- range(N) -/
theorem EvIter.range1 (C : Cx W A n X env h names ρ) {e : Expr} {p pos : Pos} {x : Str} {px : Pos} {N : Nat} (he : Ev W A X env h e (.int (N : Nat))) (hN : N < 2 ^ 62 := by omega)
    (hk : names.lookup ("range" : Str) = some .globalImplicit := by first | decide +kernel | (dsimp only; decide +kernel)) (hs : starEach [e] env = [(false, eval e env)] := by rfl) :
    EvIter W A X env h (.Call (.Name "range" p) [e] [] pos) (.Name x px) [x] ((List.range N).map fun i => [.int (i : Nat)]) := fun s K E k q => by
  have O := C.ok.mono k.le
  obtain ⟨hg, hb⟩ := O.base.bi ("range", .type "range") (used_t (by decide +kernel))
  refine wpAny_Call_NameR (Name_function_global C.kind (by unfold Env.kindOf; rw [C.names]; exact hk) (loadGlobal_builtin (C.globals ▸ O.base.g) hg (C.builtins ▸ O.base.b) hb ?_) (by decide +kernel))
  rw [hs]
  refine PySem.callWith_type rfl (evalArgs_plain (spliced_cons (he s _ E k fun cv h₁ tk₁ k₁ r₁ => spliced_nil ?_)))
  obtain ⟨_, rfl⟩ := Rep.intI r₁
  refine call_range_1 (wpAny_pyIter_range (IsRange.new ..) (small_one (by decide) (by decide) (by omega) (by omega)) ?_)
  have hsz : Builtin.Range.rangeSize 0 (N : Int) 1 = (N : Int) := by rw [rangeSize_one]; split <;> omega
  rw [hsz]
  dsimp only
  have er : ((List.range N).map fun i => ([.int (i : Nat)] : List PV)) = (List.range N).map fun i => [.int (0 + (i : Nat) * 1)] := List.map_congr_left fun i _ => by rw [show (0 + (i : Int) * 1) = (i : Int) by omega]
  rw [er] at q
  exact rangeWalk C k ⟨k₁.le.trans (Le.push _ _), Nat.le_add_right_of_le (Nat.le_add_right_of_le k₁.lo)⟩ q

/-- range(a, b, c), written -/
theorem EvIter.range3 (C : Cx W A n X env h names ρ) {e1 e2 e3 : Expr} {p pos : Pos} {x : Str} {px : Pos} {a b c : Int} (N : Nat) (h1 : Ev W A X env h e1 (.int a)) (h2 : Ev W A X env h e2 (.int b)) (h3 : Ev W A X env h e3 (.int c))
    (hc : c ≠ 0 := by decide) (hsm : Builtin.Range.small a b c = true := by decide) (hsz : Builtin.Range.rangeSize a b c = (N : Int) := by decide) (hc' : c.natAbs < 1073741824 := by decide)
    (hk : names.lookup ("range" : Str) = some .globalImplicit := by first | decide +kernel | (dsimp only; decide +kernel)) (hs : starEach [e1, e2, e3] env = [(false, eval e1 env), (false, eval e2 env), (false, eval e3 env)] := by rfl) :
    EvIter W A X env h (.Call (.Name "range" p) [e1, e2, e3] [] pos) (.Name x px) [x] ((List.range N).map fun i => [.int (a + (i : Nat) * c)]) := fun s K E k q => by
  have O := C.ok.mono k.le
  obtain ⟨hg, hb⟩ := O.base.bi ("range", .type "range") (used_t (by decide +kernel))
  refine wpAny_Call_NameR (Name_function_global C.kind (by unfold Env.kindOf; rw [C.names]; exact hk) (loadGlobal_builtin (C.globals ▸ O.base.g) hg (C.builtins ▸ O.base.b) hb ?_) (by decide +kernel))
  rw [hs]
  refine PySem.callWith_type rfl (evalArgs_plain (spliced_cons (h1 s _ E k fun v1 g1 t1 k1 r1 => spliced_cons (h2 _ _ E (k.trans k1) fun v2 g2 t2 k2 r2 => spliced_cons (h3 _ _ E ((k.trans k1).trans k2) fun v3 g3 t3 k3 r3 => spliced_nil ?_)))))
  obtain ⟨_, rfl⟩ := Rep.intI r1; obtain ⟨_, rfl⟩ := Rep.intI r2; obtain ⟨_, rfl⟩ := Rep.intI r3
  refine call_range_3 hc (wpAny_pyIter_range (IsRange.new ..) hsm ?_) (.inl (PyProof.noPylong_small (by omega)))
  rw [hsz]
  dsimp only
  exact rangeWalk C k (((k1.trans k2).trans k3).more (Le.push _ _)) q

/-- enumerate(l), with two names -/
theorem EvIter.enum (C : Cx W A n X env h names ρ) {e : Expr} {p pos pt : Pos} {x y : Str} {px py : Pos} {kk : Nat} {l : List PV} (he : Ev W A X env h e (.list l))
    (hk : names.lookup ("enumerate" : Str) = some .globalImplicit := by first | decide +kernel | (dsimp only; decide +kernel)) (hs : starEach [e] env = [(false, eval e env)] := by rfl) :
    EvIter W A X env h (.Call (.Name "enumerate" p) [e] [] pos) (.Tuple [.Name x px, .Name y py] kk pt) [x, y] (l.zipIdx.map fun (v, i) => [.int (i : Nat), v]) := fun s K E k q => by
  have O := C.ok.mono k.le
  obtain ⟨hg, hb⟩ := O.base.bi ("enumerate", .type "enumerate") (used_t (by decide +kernel))
  refine wpAny_Call_NameR (Name_function_global C.kind (by unfold Env.kindOf; rw [C.names]; exact hk) (loadGlobal_builtin (C.globals ▸ O.base.g) hg (C.builtins ▸ O.base.b) hb ?_) (by decide +kernel))
  rw [hs]
  refine PySem.callWith_type rfl (evalArgs_plain (spliced_cons (he s _ E k fun cv h₁ tk₁ k₁ r₁ => spliced_nil ?_)))
  have O₁ := O.mono k₁.le
  obtain ⟨a, rfl, vs, m, na, ia, r⟩ := Rep.listI r₁
  refine call_enumerate_list ia.isList fun h' hen hit hsz kp => wpAny_pyIter_enum hen ?_
  have hlen := r.length
  have ha : (a : Nat) < h₁.objs.size := Heap.lt_size ia
  have new : ∀ b, h₁.objs.size ≤ b → ¬ Alive h₁ b := fun b hb al => by
    obtain ⟨o, e⟩ := al
    exact absurd (Heap.lt_size e) (Nat.not_lt.mpr hb)
  have xnew : ∀ b, h₁.objs.size ≤ b → ¬ X b := fun b hb hx => by
    obtain ⟨c, hc, al⟩ := O₁.alive b hx
    exact new c (Nat.le_trans hb hc) al
  have T := Tn.pair (W := W) C.ok.room.handled (x := x) (y := y) (px := px) (py := py) (pt := pt) (k := kk)
    (WalksT.enumerate (prog := W.prog) (w := W.w) C.ok.room.handled (h₁.objs.size + 1) h₁.objs.size a (Nat.succ_ne_self _) (Nat.ne_of_lt (Nat.lt_succ_of_lt ha)) (Nat.ne_of_lt ha) vs.toArray).toU
    (fun i ws hP => by obtain ⟨t, u, _, rfl⟩ := hP; rfl) (fun i g hS b hb => by
      obtain ⟨⟨old, he⟩, hit, hl⟩ := hS
      rcases List.mem_cons.mp hb with rfl | hb
      · exact ⟨_, he⟩
      · rcases List.mem_cons.mp hb with rfl | hb
        · obtain ⟨o, ho, _⟩ := hit; exact ⟨o, ho⟩
        · rw [List.mem_singleton.mp hb]
          obtain ⟨o, ho, _⟩ := hl; exact ⟨o, ho⟩)
  have e : vs.toArray.size = (l.zipIdx.map fun (v, i) => ([.int (i : Nat), v] : List PV)).length := by simp [hlen]
  rw [e] at T
  have klo := k₁.lo
  refine q _ _ _ _ _ h' _ ⟨k₁.le.trans kp, by dsimp only at klo ⊢; omega⟩ T (fun i ws row hB hr => ?_) ⟨⟨_, hen⟩, hit, ⟨_, kp _ _ ia, rfl, _, rfl⟩⟩ (fun b hb => ?_) fun b hb => ?_
  · obtain ⟨t, u, hu, hw⟩ := hB
    have hu' : vs[i]? = some u := by simpa using hu
    obtain ⟨pv, hp, rp⟩ := r.get' hu'
    have hws : ws = [.int i t, u] := by simpa using congrArg Array.toList hw
    rw [List.getElem?_map, List.getElem?_zipIdx, hp] at hr
    simp only [Option.map_some, Option.some.injEq, Nat.zero_add] at hr
    subst hr hws
    refine .cons (.int _ _) (.cons ((rp.set fun c z al => ?_).mono kp) .nil)
    rcases z with z | z
    · exact z
    · rcases List.mem_cons.mp z with rfl | z
      · exact absurd al (new _ (Nat.le_succ _))
      · rw [List.mem_singleton.mp z] at al
        exact absurd al (new _ (Nat.le_refl _))
  · rcases List.mem_cons.mp hb with rfl | hb
    · exact ⟨⟨_, hen⟩, xnew _ (Nat.le_succ _)⟩
    · rcases List.mem_cons.mp hb with rfl | hb
      · exact ⟨let ⟨o, ho, _⟩ := hit; ⟨o, ho⟩, xnew _ (Nat.le_refl _)⟩
      · rw [List.mem_singleton.mp hb]
        exact ⟨⟨_, kp _ _ ia⟩, na⟩
  · rcases List.mem_cons.mp hb with rfl | hb
    · exact fun al => new _ (Nat.le_succ _) (al.mono k₁.le)
    · rw [List.mem_singleton.mp hb]
      exact fun al => new _ (Nat.le_refl _) (al.mono k₁.le)

/-- a list of pairs, with two names -/
theorem pairsOf {X : AS} {g : Heap} : ∀ {vs : List Value} {l : List (PV × PV)}, RepAll X g vs (l.map fun p => .tuple [p.1, p.2]) →
    ∃ (Ts : Nat → Addr) (vals : Nat → Array Value), ∀ i p, l[i]? = some p → vs[i]? = some (.ref (Ts i)) ∧ ¬ X (Ts i) ∧ (∃ nn, IsT g (Ts i) (vals i) nn) ∧ RepAll X g (vals i).toList [p.1, p.2]
  | [], [], _ => ⟨fun _ => 0, fun _ => #[], fun i p e => by simp at e⟩
  | v :: vs, p :: l, .cons a b => by
    obtain ⟨Ts, vals, hh⟩ := pairsOf b
    obtain ⟨t, rfl, ws, nn, nx, it, r⟩ := Rep.tupleI a
    refine ⟨fun i => if i = 0 then t else Ts (i - 1), fun i => if i = 0 then ws.toArray else vals (i - 1), fun i q e => ?_⟩
    cases i with
    | zero =>
      cases e
      exact ⟨rfl, nx, ⟨nn, it⟩, r⟩
    | succ i => exact hh i q e

theorem EvIter.pairs (C : Cx W A n X env h names ρ) {iter : Expr} {x y : Str} {px py pt : Pos} {kk : Nat} {l : List (PV × PV)} (he : Ev W A X env h iter (.list (l.map fun p => .tuple [p.1, p.2]))) :
    EvIter W A X env h iter (.Tuple [.Name x px, .Name y py] kk pt) [x, y] (l.map fun p => [p.1, p.2]) := fun s K E k q => by
  refine he s _ E k fun cv h₁ tk₁ k₁ r₁ => ?_
  have O := (C.ok.mono k.le).mono k₁.le
  obtain ⟨a, rfl, vs, m, na, ia, r⟩ := Rep.listI r₁
  obtain ⟨Ts, vals, hh⟩ := pairsOf r
  have hL := ia.isList
  have hne : a ≠ h₁.objs.size := Nat.ne_of_lt (Heap.lt_size ia)
  have hlen : vs.length = l.length := by simpa using r.length
  have at' : ∀ j, j < vs.toArray.size → ∃ p, l[j]? = some p := fun j hj => ⟨l[j]'(by simpa [hlen] using hj), List.getElem?_eq_getElem _⟩
  have T0 := WalksU.listOfTuples (prog := W.prog) (w := W.w) C.ok.room.handled h₁.objs.size a hne vs.toArray Ts vals
    (fun j hj => by obtain ⟨p, hp⟩ := at' j hj; simpa using (hh j p hp).1) (fun j hj => by
      obtain ⟨p, hp⟩ := at' j hj
      obtain ⟨nn, it⟩ := (hh j p hp).2.2.1
      exact Nat.ne_of_lt (Heap.lt_size it))
  have T := Tn.pair (W := W) C.ok.room.handled (x := x) (y := y) (px := px) (py := py) (pt := pt) (k := kk) T0.bound (fun i ws hP => by
      obtain ⟨hi, rfl⟩ := hP
      obtain ⟨p, hp⟩ := at' i hi
      have := (hh i p hp).2.2.2.length
      simpa using this) (fun i g hS b hb => by
      obtain ⟨hit, hl, ht⟩ := hS
      rcases List.mem_cons.mp hb with rfl | hb
      · obtain ⟨o, ho, _⟩ := hit; exact ⟨o, ho⟩
      · rcases List.mem_cons.mp hb with rfl | hb
        · obtain ⟨o, ho, _⟩ := hl; exact ⟨o, ho⟩
        · obtain ⟨j, hj, rfl⟩ := List.mem_map.mp hb
          obtain ⟨o, ho, _⟩ := ht j (List.mem_range.mp hj)
          exact ⟨o, ho⟩)
  have e : vs.toArray.size = (l.map fun p => ([p.1, p.2] : List PV)).length := by simp [hlen]
  refine wpAny_pyIter_list hL (q h₁.objs.size _ _ _ _ _ _ (k₁.more (Le.push _ _)) (by rw [← e]; exact T) (fun i ws row hB hr => ?_) ?_ (fun b hb => ?_) (fun b hb => ?_))
  · obtain ⟨hi, hw⟩ := hB
    obtain ⟨p, hp⟩ := at' i hi
    rw [List.getElem?_map, hp] at hr
    cases hr
    have hws : ws = (vals i).toList := by simpa using congrArg Array.toList hw
    subst hws
    refine ((hh i p hp).2.2.2.set fun c z al => ?_).mono (Le.push _ _)
    rcases z with z | z
    · exact z
    · rw [List.mem_singleton.mp z] at al
      obtain ⟨o, e⟩ := al
      rw [get_size] at e; cases e
  · refine ⟨⟨_, Heap.get?_push_size _ rfl, rfl, rfl⟩, hL.push _, fun j hj => ?_⟩
    obtain ⟨p, hp⟩ := at' j hj
    obtain ⟨nn, it⟩ := (hh j p hp).2.2.1
    exact (IsT.isTuple it).push _
  · rcases List.mem_cons.mp hb with rfl | hb
    · exact ⟨⟨_, Heap.get?_push_size _ rfl⟩, O.new⟩
    · rcases List.mem_cons.mp hb with rfl | hb
      · exact ⟨⟨_, Heap.get?_push_of_some _ ia⟩, na⟩
      · obtain ⟨j, hj, rfl⟩ := List.mem_map.mp hb
        obtain ⟨p, hp⟩ := at' j (List.mem_range.mp hj)
        obtain ⟨nn, it⟩ := (hh j p hp).2.2.1
        exact ⟨⟨_, Heap.get?_push_of_some _ it⟩, (hh j p hp).2.1⟩
  · rw [List.mem_singleton.mp hb]
    exact fun al => by
      obtain ⟨o, e⟩ := al.mono k₁.le
      rw [get_size] at e; cases e
end
end
section
open PySem PySem.Calls PyProof.Rows
/-- what an object holds -/
inductive Cont (X : AS) (h : Heap) (a : Addr) : PV → Prop
  | list {vs : List Value} {n : Nat} {l : List PV} : IsL h a vs.toArray n → RepAll X h vs l → Cont X h a (.list l)
  | tuple {vs : List Value} {n : Nat} {l : List PV} : IsT h a vs.toArray n → RepAll X h vs l → Cont X h a (.tuple l)
  | dict {hf : Str → Int} {P : Nat → Prop} {l : List (Str × Str)} : DictS h a hf P l → Cont X h a (.dict hf P l)
theorem Cont.listI {X : AS} {h : Heap} {a : Addr} {l : List PV} (c : Cont X h a (.list l)) : ∃ (vs : List Value) (n : Nat), IsL h a vs.toArray n ∧ RepAll X h vs l := by cases c with | list i r => exact ⟨_, _, i, r⟩
theorem Cont.dictI {X : AS} {h : Heap} {a : Addr} {hf : Str → Int} {P : Nat → Prop} {l : List (Str × Str)} (c : Cont X h a (.dict hf P l)) : DictS h a hf P l := by cases c with | dict D => exact D
theorem Cont.rep {X : AS} {h : Heap} {a : Addr} {v : PV} (c : Cont X h a v) (n : ¬ X a) : Rep X h (.ref a) v := by
  cases c with
  | list i r => exact .list n i r
  | tuple i r => exact .tuple n i r
  | dict d => exact .dict n d
theorem Cont.alive {X : AS} {h : Heap} {a : Addr} {v : PV} (c : Cont X h a v) : Alive h a := by
  cases c with
  | list i r => exact ⟨_, i⟩
  | tuple i r => exact ⟨_, i⟩
  | dict d => exact d.alive
theorem Cont.keep {X : AS} {h h' : Heap} {a : Addr} {v : PV} (c : Cont X h a v) (k : ∀ b o, ¬ X b → h.get? b = some o → h'.get? b = some o) (ka : ∀ o, h.get? a = some o → h'.get? a = some o) : Cont X h' a v := by
  cases c with
  | list i r => exact .list (ka _ i) (r.keep k)
  | tuple i r => exact .tuple (ka _ i) (r.keep k)
  | dict d => exact .dict (d.mono ka)
theorem Cont.mono {X : AS} {h h' : Heap} {a : Addr} {v : PV} (c : Cont X h a v) (k : Le h h') : Cont X h' a v := c.keep (fun b o _ e => k b o e) fun o e => k a o e
theorem Cont.set {X X' : AS} {h : Heap} {a : Addr} {v : PV} (c : Cont X h a v) (k : ∀ b, X' b → Alive h b → X b) : Cont X' h a v := by
  cases c with
  | list i r => exact .list i (r.set k)
  | tuple i r => exact .tuple i (r.set k)
  | dict d => exact .dict d
/-- what is in it has no footprint -/
noncomputable def PV.shal : PV → Bool
  | .list l | .tuple l => l.all PV.flat
  | _ => true
theorem Cont.shal {X X' : AS} {h : Heap} {a : Addr} {v : PV} (c : Cont X h a v) (f : v.shal = true) : Cont X' h a v := by
  cases c with
  | list i r => exact .list i (r.flat f)
  | tuple i r => exact .tuple i (r.flat f)
  | dict d => exact .dict d

/-- an expression that gives a new object -/
noncomputable def EvN (W : Wd) (A : Around) (X : AS) (env : Env) (h : Heap) (e : Expr) (v : PV) : Prop :=
  ∀ (s : Shared) (Q : Value → Shared → Prop) (E : Value → Shared → Prop), LeW W.lo h s →
    (∀ a h' tk', LeW W.lo s.heap { s with heap := h', toks := tk' } → (∀ b, Alive s.heap b → b < a) → Cont X h' a v → Q (.ref a) { s with heap := h', toks := tk' }) → wpAny W.M A (eval e env) Q E s

section
variable {W : Wd} {A : Around} {n : Nat} {X : AS} {env : Env} {h : Heap} {names : List (Str × NameKind)} {ρ : List (Str × PV)}

theorem EvN.ev (C : Cx W A n X env h names ρ) {e : Expr} {v : PV} (x : EvN W A X env h e v) : Ev W A X env h e v := fun s Q E k p =>
  x s Q E k fun a h' tk' k' b c => p (.ref a) h' tk' k' (c.rep fun hx => by
    obtain ⟨d, hd, al⟩ := (C.ok.mono k.le).alive a hx
    exact absurd (b d al) (Nat.not_lt.mpr hd))

theorem lt_of_alive {h h' : Heap} (k : Le h h') : ∀ b, Alive h b → b < h'.objs.size := fun b ⟨o, e⟩ => Heap.lt_size (k b o e)

theorem EvN.list {es : List Expr} {pos : Pos} {vs : List PV} (ha : EvArgs W A X env h es vs) (hl : vs.length ≤ 1000) : EvN W A X env h (.List es pos) (.list vs) := fun s Q E k p => by
  refine wpAny_List_spliced (ha s _ E _ k fun cvs h₁ tk₁ k₁ r => ⟨by rw [r.length, sizeLine_eq]; omega, ?_⟩)
  exact p _ _ tk₁ (k₁.more (Le.push _ _)) (lt_of_alive k₁.le) (.list (n := 0) (Heap.get?_push_size _ rfl) (r.mono (Le.push _ _)))
theorem EvN.tuple {es : List Expr} {kk : Nat} {pos : Pos} {vs : List PV} (ha : EvArgs W A X env h es vs) (hl : vs.length ≤ 1000) : EvN W A X env h (.Tuple es kk pos) (.tuple vs) := fun s Q E k p => by
  refine wpAny_Tuple_spliced (ha s _ E _ k fun cvs h₁ tk₁ k₁ r => ⟨by rw [r.length, sizeLine_eq]; omega, ?_⟩)
  exact p _ _ tk₁ (k₁.more (Le.push _ _)) (lt_of_alive k₁.le) (.tuple (n := 0) (Heap.get?_push_size _ rfl) (r.mono (Le.push _ _)))

theorem compClos (C : Cx W A n X env h names ρ) {scope : Scope} {xs : List Str} (hok : compOk names scope.names xs = true) :
    closureFor scope env = pure (closL env.cells scope.names []) ∧ ∀ x ∈ scope.names, x.2 = .local → scope.names.lookup x.1 = some .local := by
  simp only [compOk, Bool.and_eq_true] at hok
  obtain ⟨⟨⟨⟨⟨o1, o2⟩, o3⟩, o4⟩, o5⟩, o6⟩ := hok
  refine ⟨closureFor_is fun ⟨x, kd⟩ hx e => ?_, fun ⟨x, kd⟩ hx e => ?_⟩
  · simp only at e
    subst e
    have := List.all_eq_true.mp o2 _ hx
    obtain ⟨c, hc, _⟩ := C.cells x (by unfold Env.kindOf; rw [C.names]; simpa using this)
    exact (by rw [hc]; rfl)
  · simp only at e
    subst e
    exact all_lookup o1 hx

theorem EvN.comp {elt target iter : Expr} {ifs : List Expr} {scope : Scope} {pos : Pos} {xs : List Str} {rows outs : List (List PV)} {ρ' : List (Str × PV)}
    (C : Cx W A n X env h names ρ) (hit : EvIter W A X env h iter target xs rows) (cap : Cap scope.names ρ ρ') (hok : compOk names scope.names xs = true)
    (hlen : outs.length = rows.length) (htot : outs.flatten.length ≤ 100000)
    (body : ∀ (i : Nat) (row out : List PV), rows[i]? = some row → outs[i]? = some out → ∀ X' env' h', Cx W A n X' env' h' (relN names scope.names) (xs.zip row ++ ρ') →
      ∃ b v, out = outOf b v ∧ EvIfs W A env' h' ifs b ∧ (b = true → Ev W A X' env' h' elt v))
    (hkind : scope.kind = .function := by rfl) (hs : ∀ x, foldedSetIterable iter env x = pure x := by intro _; rfl) :
    EvN W A X env h (.ListComp elt [⟨target, iter, ifs, 0⟩] scope pos) (.list outs.flatten) := fun s Q E k p => by
  obtain ⟨c1, c2⟩ := compClos C hok
  rw [eval_ListComp]
  refine wpAny_comprehension_free (use := none) (cl := closL env.cells scope.names []) rfl hs c1 hkind c2 ?_
  refine hit s _ E k fun I fp wr Bv St h' tk' k₂' T hB hst hfp hwr => ?_
  have k₂ := k₂'.le
  refine comp_list False (s := s) (s₂ := { s with heap := h', toks := tk' }) (RR := fun acc Cc => compPost W.M A E none Q acc Cc) C k.le k₂ k₂'.lo cap hkind hok T rfl hB hst hfp hwr hlen htot (fun i row out hr ho X' env' h' C' => let ⟨b, v, e, hi, hv⟩ := body i row out hr ho X' env' h' C'; ⟨b, v, e, hi, fun q => (hv q).evK⟩) ?_
  rintro D Cc h₃ tk₃ hlo₃ hdc hd hc ⟨ml, hn⟩ ⟨vs, nn, il, rl, _⟩ le₃
  refine ⟨ml, hn, fun h₄ hs₄ => p D h₄ tk₃ ⟨fun a o e => hs₄.extBut a o (fun q => hc ⟨o, q ▸ k₂ a o e⟩) (le₃ a o e), hlo₃⟩ (fun b al => hd b (al.mono k₂)) (.list (n := nn) (vs := vs) (hs₄.extBut _ _ hdc il) ?_)⟩
  exact (rl.keep fun a o q e => hs₄.extBut a o (fun z => q (.inr z)) e).set fun a q _ => .inl q
end

/-! a def's frame -/
structure Fp where
  W : Wd
  A : Around
  n : Nat
  Xc : AS
  env : Env
  Y : AS
  h₀ : Heap
  names : List (Str × NameKind)

/-- the owned objects of a frame -/
inductive OwnAll (F : Fp) (X : AS) (h : Heap) (m : Str → Option Value) : List Addr → List (Str × PV) → Prop
  | nil : OwnAll F X h m [] []
  | cons {a : Addr} {as : List Addr} {x : Str} {v : PV} {r : List (Str × PV)} : Own F.env F.Y x → m x = some (.ref a) → Cont X h a v → (∀ b, Alive F.h₀ b → b < a) → ¬ F.Y a → a ∉ as → OwnAll F X h m as r → OwnAll F X h m (a :: as) ((x, v) :: r)

noncomputable def Fp.X (F : Fp) (Z : AS) (as : List Addr) : AS := fun a => F.Xc a ∨ F.Y a ∨ a ∈ as ∨ Z a

structure SttA (F : Fp) (Z : AS) (ρ ow : List (Str × PV)) (as : List Addr) (h : Heap) : Prop where
  room : Room F.A F.n
  base : Base F.W.ds F.W.mg F.W.mb F.h₀
  xalive : ∀ a, F.Xc a → ∃ b, a ≤ b ∧ Alive F.h₀ b
  kind : F.env.scope.kind = .function
  names : F.env.scope.names = F.names
  globals : F.env.globals = mainGlobals
  builtins : F.env.builtins = builtinsNs
  le : Le F.h₀ h
  ynew : ∀ b, F.Y b → ¬ Alive F.h₀ b
  yis : ∀ b, F.Y b → b = F.env.locals ∨ ∃ x, F.env.kindOf x = some .cell ∧ F.env.cells.lookup x = some b
  cells : ∀ x, F.env.kindOf x = some .cell ∨ F.env.kindOf x = some .free → ∃ c, F.env.cells.lookup x = some c ∧ F.Y c ∧ F.env.kindOf x = some .cell
  zal : ∀ a, Z a → Alive h a ∧ ¬ F.Y a ∧ a ∉ as
  frame : ∃ m, Fr1 F.env F.Y h m ∧ (∀ x v, Look ρ x v → Own F.env F.Y x ∧ ∃ cv, m x = some cv ∧ Rep (F.X Z as) h cv v) ∧ OwnAll F (F.X Z as) h m as ow

theorem OwnAll.mono {F : Fp} {X : AS} {h h' : Heap} {m : Str → Option Value} {as : List Addr} {ow : List (Str × PV)} (o : OwnAll F X h m as ow) (k : Le h h') : OwnAll F X h' m as ow := by
  induction o with
  | nil => exact .nil
  | cons a b c d e f _ ih => exact .cons a b (c.mono k) d e f ih
theorem OwnAll.alive {F : Fp} {X : AS} {h : Heap} {m : Str → Option Value} {as : List Addr} {ow : List (Str × PV)} (o : OwnAll F X h m as ow) : ∀ a ∈ as, Alive h a := by
  induction o with
  | nil => intro a q; cases q
  | cons a b c d e f _ ih =>
    intro z q
    rcases List.mem_cons.mp q with rfl | q
    · exact c.alive
    · exact ih z q
theorem OwnAll.look {F : Fp} {X : AS} {h : Heap} {m : Str → Option Value} {as : List Addr} {ow : List (Str × PV)} (o : OwnAll F X h m as ow) : ∀ {x : Str} {v : PV}, Look ow x v → ∃ a, a ∈ as ∧ Own F.env F.Y x ∧ m x = some (.ref a) ∧ Cont X h a v ∧ ∀ b, Alive F.h₀ b → b < a := by
  induction o with
  | nil => intro x v l; cases l
  | cons a b c d e f _ ih =>
    intro x v l
    cases l with
    | head => exact ⟨_, .head _, a, b, c, d⟩
    | tail l =>
      obtain ⟨z, hz, r⟩ := ih l
      exact ⟨z, .tail _ hz, r⟩

section
variable {F : Fp} {Z : AS} {ρ ow : List (Str × PV)} {as : List Addr} {h h' : Heap}

theorem SttA.mono (S : SttA F Z ρ ow as h) (k : Le h h') : SttA F Z ρ ow as h' :=
  ⟨S.room, S.base, S.xalive, S.kind, S.names, S.globals, S.builtins, S.le.trans k, S.ynew, S.yis, S.cells, fun a z => let ⟨al, r⟩ := S.zal a z; ⟨al.mono k, r⟩, let ⟨m, f, v, o⟩ := S.frame; ⟨m, f.mono k, fun x u l => let ⟨a, cv, e, r⟩ := v x u l; ⟨a, cv, e, r.mono k⟩, o.mono k⟩⟩

theorem SttA.yalive (S : SttA F Z ρ ow as h) {a : Addr} (y : F.Y a) : Alive h a := by
  obtain ⟨m, f, _⟩ := S.frame
  rcases S.yis a y with q | ⟨x, hk, hc⟩
  · obtain ⟨ml, ⟨o, es, ep, ho, _⟩, _⟩ := f.ns
    exact ⟨o, q ▸ ho⟩
  · obtain ⟨o, ho, _⟩ := f.cell x a hk hc y
    exact ⟨o, ho⟩

theorem SttA.okX (S : SttA F Z ρ ow as h) : Ok F.W F.A F.n (F.X Z as) h := ⟨S.room, S.base.mono S.le, fun a q => by
  obtain ⟨m, f, v, o⟩ := S.frame
  rcases q with q | q | q | q
  · obtain ⟨b, hb, al⟩ := S.xalive a q
    exact ⟨b, hb, al.mono S.le⟩
  · exact ⟨a, Nat.le_refl _, S.yalive q⟩
  · exact ⟨a, Nat.le_refl _, o.alive a q⟩
  · exact ⟨a, Nat.le_refl _, (S.zal a q).1⟩⟩
theorem SttA.okC (S : SttA F Z ρ ow as h) : Ok F.W F.A F.n F.Xc h := ⟨S.room, S.base.mono S.le, fun a q => S.okX.alive a (.inl q)⟩

theorem SttA.cellsOf (S : SttA F Z ρ ow as h) : ∀ x, F.env.kindOf x = some .cell ∨ F.env.kindOf x = some .free → ∃ c, F.env.cells.lookup x = some c ∧ Alive h c := fun x q =>
  let ⟨c, hc, y, _⟩ := S.cells x q
  ⟨c, hc, S.yalive y⟩

/-- the frame with what it does not own -/
theorem SttA.full (S : SttA F Z ρ ow as h) : Cx F.W F.A F.n (F.X Z as) F.env h F.names ρ :=
  ⟨S.okX, S.kind, S.names, S.globals, S.builtins, fun x v l => by
    obtain ⟨m, f, vs, o⟩ := S.frame
    obtain ⟨ho, cv, e, r⟩ := vs x v l
    exact ⟨cv, f.loads ho e, r⟩, S.cellsOf⟩
/-- the frame with all its names, for what is looked at -/
theorem SttA.all (S : SttA F Z ρ ow as h) : Cx F.W F.A F.n F.Xc F.env h F.names (ρ ++ ow) :=
  ⟨S.okC, S.kind, S.names, S.globals, S.builtins, fun x v l => by
    obtain ⟨m, f, vs, o⟩ := S.frame
    rcases l.append with l | l
    · obtain ⟨ho, cv, e, r⟩ := vs x v l
      exact ⟨cv, f.loads ho e, r.set fun a q _ => .inl q⟩
    · obtain ⟨a, _, ho, e, c, dead⟩ := o.look l
      refine ⟨.ref a, f.loads ho e, (c.set fun a q _ => .inl q).rep fun q => ?_⟩
      obtain ⟨b, hb, al⟩ := S.xalive a q
      exact absurd (dead b al) (Nat.not_lt.mpr hb), S.cellsOf⟩
end
end
section
open PySem PySem.Calls PyProof.Rows
inductive Erase (x : Str) : List (Str × PV) → List (Str × PV) → Prop
  | nil : Erase x [] []
  | hit {v : PV} {r r' : List (Str × PV)} : Erase x r r' → Erase x ((x, v) :: r) r'
  | miss {y : Str} {v : PV} {r r' : List (Str × PV)} : y ≠ x → Erase x r r' → Erase x ((y, v) :: r) ((y, v) :: r')
theorem Erase.look {x : Str} {ρ ρ' : List (Str × PV)} (e : Erase x ρ ρ') : ∀ {y : Str} {v : PV}, Look ρ' y v → Look ρ y v ∧ y ≠ x := by
  induction e with
  | nil => intro y v l; cases l
  | hit _ ih => intro y v l; exact ⟨.tail (ih l).1, (ih l).2⟩
  | miss h _ ih =>
    intro y v l
    cases l with
    | head => exact ⟨.head, h⟩
    | tail l => exact ⟨.tail (ih l).1, (ih l).2⟩
inductive Off (x : Str) : List (Str × PV) → Prop
  | nil : Off x []
  | cons {y : Str} {v : PV} {r : List (Str × PV)} : y ≠ x → Off x r → Off x ((y, v) :: r)

noncomputable def ownB (names : List (Str × NameKind)) (x : Str) : Bool := names.lookup x == some .local || names.lookup x == some .cell

section
variable {F : Fp} {Z : AS} {ρ ρ' ow : List (Str × PV)} {as : List Addr} {h : Heap}

theorem SttA.own (S : SttA F Z ρ ow as h) {x : Str} (o : ownB F.names x = true) : Own F.env F.Y x := by
  have e : F.env.kindOf x = F.names.lookup x := by unfold Env.kindOf; rw [S.names]
  unfold ownB at o
  rw [Bool.or_eq_true, beq_iff_eq, beq_iff_eq] at o
  rcases o with q | q
  · exact .inl (e.trans q)
  · obtain ⟨c, hc, y, _⟩ := S.cells x (.inl (e.trans q))
    exact .inr ⟨e.trans q, c, hc, y⟩

theorem OwnAll.updd {F : Fp} {X : AS} {h h' : Heap} {m : Str → Option Value} {as : List Addr} {ow : List (Str × PV)} {x : Str} {cv : Value} (o : OwnAll F X h m as ow) (off : Off x ow) (hY : ∀ a, F.Y a → X a)
    (k : ∀ b o, ¬ F.Y b → h.get? b = some o → h'.get? b = some o) : OwnAll F X h' (upd m x cv) as ow := by
  induction o with
  | nil => exact .nil
  | cons a b c d e f _ ih =>
    cases off with
    | cons hne off =>
      exact .cons a ((if_neg hne : upd m x cv _ = m _).trans b) (c.keep (fun z o n q => k z o (fun y => n (hY z y)) q) fun o q => k _ o e q) d e f (ih off)
theorem OwnAll.set {F : Fp} {X X' : AS} {h : Heap} {m : Str → Option Value} {as : List Addr} {ow : List (Str × PV)} (o : OwnAll F X h m as ow) (k : ∀ a, X' a → Alive h a → X a) : OwnAll F X' h m as ow := by
  induction o with
  | nil => exact .nil
  | cons a b c d e f _ ih => exact .cons a b (c.set k) d e f ih

/-- the frame behind a store of a value whose footprint keeps off all that is owned -/
theorem SttA.frozen (S : SttA F Z ρ ow as h) {h' : Heap} {m : Str → Option Value} {x : Str} {cv : Value} {v : PV}
    (vs : ∀ x v, Look ρ x v → Own F.env F.Y x ∧ ∃ cv, m x = some cv ∧ Rep (F.X Z as) h cv v) (oa : OwnAll F (F.X Z as) h m as ow) (f' : Fr1 F.env F.Y h' (upd m x cv)) (k : ∀ b o, ¬ F.Y b → h.get? b = some o → h'.get? b = some o)
    (o : ownB F.names x = true) (er : Erase x ρ ρ') (off : Off x ow) (r : Rep (F.X Z as) h' cv v) : SttA F Z ((x, v) :: ρ') ow as h' := by
  have le' : Le F.h₀ h' := fun a o e => k a o (fun y => S.ynew a y ⟨o, e⟩) (S.le a o e)
  have kx : ∀ a o, ¬ F.X Z as a → h.get? a = some o → h'.get? a = some o := fun a o n e => k a o (fun y => n (.inr (.inl y))) e
  refine ⟨S.room, S.base, S.xalive, S.kind, S.names, S.globals, S.builtins, le', S.ynew, S.yis, S.cells, fun a z => let ⟨⟨o, e⟩, ny, na⟩ := S.zal a z; ⟨⟨o, k a o ny e⟩, ny, na⟩, _, f', fun y u l => ?_, oa.updd off (fun a y => .inr (.inl y)) k⟩
  cases l with
  | head => exact ⟨S.own o, cv, if_pos rfl, r⟩
  | tail l =>
    obtain ⟨l', hne⟩ := er.look l
    obtain ⟨ho, cv', e, r'⟩ := vs y u l'
    exact ⟨ho, cv', (if_neg hne : upd m x cv y = m y).trans e, r'.keep kx⟩

/-- the frame behind a store of a new object that is owned from now on -/
theorem SttA.owned (S : SttA F Z ρ ow as h) {h' : Heap} {m : Str → Option Value} {x : Str} {a : Addr} {v : PV}
    (vs : ∀ x v, Look ρ x v → Own F.env F.Y x ∧ ∃ cv, m x = some cv ∧ Rep (F.X Z as) h cv v) (oa : OwnAll F (F.X Z as) h m as ow) (f' : Fr1 F.env F.Y h' (upd m x (.ref a))) (k : ∀ b o, ¬ F.Y b → h.get? b = some o → h'.get? b = some o)
    (o : ownB F.names x = true) (er : Erase x ρ ρ') (off : Off x ow) (ha : ∀ b, Alive h b → b < a) (c : Cont F.Xc h' a v) (sh : v.shal = true) : SttA F Z ρ' ((x, v) :: ow) (a :: as) h' := by
  have le' : Le F.h₀ h' := fun a o e => k a o (fun y => S.ynew a y ⟨o, e⟩) (S.le a o e)
  have dead : ¬ Alive h a := fun al => Nat.lt_irrefl _ (ha a al)
  have st : ∀ b, F.X Z (a :: as) b → Alive h b → F.X Z as b := fun b q al => by
    rcases q with q | q | q | q
    · exact .inl q
    · exact .inr (.inl q)
    · rcases List.mem_cons.mp q with q | q
      · exact absurd (q ▸ al) dead
      · exact .inr (.inr (.inl q))
    · exact .inr (.inr (.inr q))
  have kx : ∀ b o, ¬ F.X Z (a :: as) b → h.get? b = some o → h'.get? b = some o := fun b o n e => k b o (fun y => n (.inr (.inl y))) e
  refine ⟨S.room, S.base, S.xalive, S.kind, S.names, S.globals, S.builtins, le', S.ynew, S.yis, S.cells, fun b z => let ⟨⟨o, e⟩, ny, na⟩ := S.zal b z; ⟨⟨o, k b o ny e⟩, ny, fun q => (List.mem_cons.mp q).elim (fun q => dead ⟨o, q ▸ e⟩) na⟩, _, f', fun y u l => ?_, .cons (S.own o) (if_pos rfl) (c.shal sh) (fun b al => ha b (al.mono S.le)) (fun y => dead (S.yalive y)) (fun q => dead (oa.alive a q)) ((oa.set st).updd off (fun a y => .inr (.inl y)) k)⟩
  obtain ⟨l', hne⟩ := er.look l
  obtain ⟨ho, cv', e, r'⟩ := vs y u l'
  exact ⟨ho, cv', (if_neg hne : upd m x (.ref a) y = m y).trans e, (r'.set st).keep kx⟩

theorem SttA.store {M : Model} {A : Around} {E : Value → Shared → Prop} {s : Shared} {x : Str} {cv : Value} {v : PV} {Q : Unit → Shared → Prop} (S : SttA F Z ρ ow as s.heap) (o : ownB F.names x = true) (er : Erase x ρ ρ') (off : Off x ow)
    (r : Rep (F.X Z as) s.heap cv v) (q : ∀ h' tk', s.toks ≤ tk' → SttA F Z ((x, v) :: ρ') ow as h' → KeptBut F.Y s.heap h' → Q () { s with heap := h', toks := tk' }) : wpAny M A (storeName F.env x cv) Q E s := by
  obtain ⟨m, f, vs, oa⟩ := S.frame
  refine f.store S.kind (S.own o) fun h' tk' ht f' k => ?_
  have kk : ∀ b o, ¬ F.Y b → s.heap.get? b = some o → h'.get? b = some o := fun b o n e => (k b n).trans e
  exact q h' tk' ht (S.frozen vs oa f' kk o er off (r.keep fun a o n e => kk a o (fun y => n (.inr (.inl y))) e)) kk

theorem SttA.storeNew {M : Model} {A : Around} {E : Value → Shared → Prop} {s : Shared} {x : Str} {a : Addr} {v : PV} {Q : Unit → Shared → Prop} (S : SttA F Z ρ ow as h) (le : Le h s.heap) (o : ownB F.names x = true) (er : Erase x ρ ρ') (off : Off x ow)
    (ha : ∀ b, Alive h b → b < a) (c : Cont F.Xc s.heap a v) (sh : v.shal = true) (q : ∀ h' tk', s.toks ≤ tk' → SttA F Z ρ' ((x, v) :: ow) (a :: as) h' → KeptBut F.Y h h' → Q () { s with heap := h', toks := tk' }) : wpAny M A (storeName F.env x (.ref a)) Q E s := by
  obtain ⟨m, f, vs, oa⟩ := S.frame
  refine (f.mono le).store S.kind (S.own o) fun h' tk' ht f' k => ?_
  have kk : ∀ b o, ¬ F.Y b → h.get? b = some o → h'.get? b = some o := fun b o n e => (k b n).trans (le b o e)
  have dY : ¬ F.Y a := fun y => Nat.lt_irrefl _ (ha a (S.yalive y))
  have c' : Cont (fun _ => F.Y a) s.heap a v := c.shal sh
  have c'' : Cont F.Y s.heap a v := c.shal sh
  have c3 : Cont F.Y h' a v := c''.keep (fun b o n e => (k b n).trans e) fun o e => (k a dY).trans e
  exact q h' tk' ht (S.owned vs oa f' kk o er off ha (c3.shal sh) sh) kk
end

inductive R where
  | next (ρ ow : List (Str × PV)) | cont (ρ ow : List (Str × PV)) | brk (ρ ow : List (Str × PV)) | ret (v : PV)
noncomputable def RAt (F : Fp) (Z : AS) : R → Flow → List Addr → Heap → Prop
  | .next ρ ow, f, as, h => f = .next ∧ SttA F Z ρ ow as h
  | .cont ρ ow, f, as, h => f = .cont ∧ SttA F Z ρ ow as h
  | .brk ρ ow, f, as, h => f = .brk ∧ SttA F Z ρ ow as h
  | .ret v, f, as, h => (∃ cv, f = .ret cv ∧ Rep F.Xc h cv v ∧ Le F.h₀ h) ∧ as = []
/-- what statements leave as it was -/
structure Step (F : Fp) (as : List Addr) (h : Heap) (as' : List Addr) (h' : Heap) : Prop where
  grow : ∀ a ∈ as', a ∈ as ∨ ¬ Alive h a ∨ F.Y a
  kept : KeptBut (fun b => F.Y b ∨ b ∈ as) h h'
theorem Step.of_kept {F : Fp} {as : List Addr} {h h' : Heap} (k : KeptBut F.Y h h') : Step F as h as h' := ⟨fun a q => .inl q, k.more fun b y => .inl y⟩
theorem Step.of_le {F : Fp} {as : List Addr} {h h' : Heap} (k : Le h h') : Step F as h as h' := ⟨fun a q => .inl q, k.kept⟩
theorem Step.refl (F : Fp) (as : List Addr) (h : Heap) : Step F as h as h := .of_le (.refl _)
theorem Step.trans {F : Fp} {as as₁ as₂ : List Addr} {h h₁ h₂ : Heap} (x : Step F as h as₁ h₁) (y : Step F as₁ h₁ as₂ h₂) : Step F as h as₂ h₂ := by
  refine ⟨fun a q => ?_, fun b o n e => ?_⟩
  · rcases y.grow a q with q | q | q
    · exact x.grow a q
    · by_cases ha : a ∈ as
      · exact .inl ha
      · by_cases hy : F.Y a
        · exact .inr (.inr hy)
        · refine .inr (.inl fun ⟨o, e⟩ => q ⟨o, x.kept a o (fun z => z.elim hy ha) e⟩)
    · exact .inr (.inr q)
  · refine y.kept b o (fun z => ?_) (x.kept b o n e)
    rcases z with z | z
    · exact n (.inl z)
    · rcases x.grow b z with z | z | z
      · exact n (.inr z)
      · exact z ⟨o, e⟩
      · exact n (.inl z)
theorem Step.cut {F : Fp} {as as' : List Addr} {h h' : Heap} (x : Step F as h as' h') : Step F as h [] h' := ⟨fun _ q => (nomatch q), x.kept⟩

/-- statements, walked from a store to what comes of them -/
structure Ex (F : Fp) (ss : List Stmt) (ρ ow : List (Str × PV)) (r : R) : Prop where
  go : ∀ (Z : AS) (s : Shared) (as : List Addr) (Q : Flow → Shared → Prop) (E : Value → Shared → Prop), SttA F Z ρ ow as s.heap → F.W.lo ≤ s.toks → (∀ f h' tk' as', F.W.lo ≤ tk' → RAt F Z r f as' h' → Step F as s.heap as' h' → Q f { s with heap := h', toks := tk' }) → wpAny F.W.M F.A (execs ss F.env) Q E s
/-- an expression over a store -/
noncomputable def E1 (F : Fp) (ρ : List (Str × PV)) (e : Expr) (v : PV) : Prop := ∀ X h, Cx F.W F.A F.n X F.env h F.names ρ → Ev F.W F.A X F.env h e v
noncomputable def EN (F : Fp) (ρ : List (Str × PV)) (e : Expr) (v : PV) : Prop := ∀ X h, Cx F.W F.A F.n X F.env h F.names ρ → EvN F.W F.A X F.env h e v
noncomputable def EB (F : Fp) (ρ : List (Str × PV)) (e : Expr) (b : Bool) : Prop := ∀ X h, Cx F.W F.A F.n X F.env h F.names ρ → EvB F.W F.A F.env h e b

section
variable {F : Fp} {ρ ρ' ow : List (Str × PV)} {r : R} {rest : List Stmt}

theorem Ex.nil : Ex F [] ρ ow (.next ρ ow) := .mk fun Z s as Q E S lo q => wpAny_execs_nil (q _ s.heap s.toks as lo ⟨rfl, S⟩ (.refl ..))
theorem Ex.ret {e : Expr} {v : PV} {pos : Pos} (he : E1 F (ρ ++ ow) e v) : Ex F (.Return (some e) pos :: rest) ρ ow (.ret v) := .mk fun Z s as Q E S lo q =>
  wpAny_execs_cons (wpAny_Return_some (he F.Xc s.heap S.all s _ E (.refl lo) fun cv h' tk' k r => q _ h' tk' [] k.lo ⟨⟨cv, rfl, r, S.le.trans k.le⟩, rfl⟩ (Step.of_le (as := as) k.le).cut))
theorem Ex.cont {pos : Pos} : Ex F (.Continue pos :: rest) ρ ow (.cont ρ ow) := .mk fun Z s as Q E S lo q => by
  refine wpAny_execs_cons ?_
  have : Q .cont s := q .cont s.heap s.toks as lo ⟨rfl, S⟩ (.refl ..)
  exact fun _ _ _ => this

theorem Ex.assign {x : Str} {px pos : Pos} {e : Expr} {v : PV} (he : E1 F ρ e v) (er : Erase x ρ ρ') (off : Off x ow) (hr : Ex F rest ((x, v) :: ρ') ow r) (o : ownB F.names x = true := by first | decide +kernel | (dsimp only; decide +kernel))
    (hs : swapsWith e (some (.Name x px)) pos.line F.env = pure false := by rfl) : Ex F (.Assign [.Name x px] e pos :: rest) ρ ow r := .mk fun Z s as Q E S lo q =>
  wpAny_execs_cons (PySem.wpAny_Assign_Name (he _ s.heap S.full s _ E (.refl lo) fun cv h' tk' k r =>
    (S.mono k.le).store (s := { s with heap := h', toks := tk' }) o er off r fun h₂ tk₂ ht₂ S₂ k₂ => hr.go _ _ as Q E S₂ (Nat.le_trans k.lo ht₂) fun f h₃ tk₃ as₃ lo₃ ra st => q f h₃ tk₃ as₃ lo₃ ra (((Step.of_le k.le).trans (.of_kept k₂)).trans st)) hs)
theorem Ex.assignF {x : Str} {px pos : Pos} {e : Expr} {v : PV} (he : E1 F (ρ ++ ow) e v) (fl : v.flat = true) (er : Erase x ρ ρ') (off : Off x ow) (hr : Ex F rest ((x, v) :: ρ') ow r) (o : ownB F.names x = true := by first | decide +kernel | (dsimp only; decide +kernel))
    (hs : swapsWith e (some (.Name x px)) pos.line F.env = pure false := by rfl) : Ex F (.Assign [.Name x px] e pos :: rest) ρ ow r := .mk fun Z s as Q E S lo q =>
  wpAny_execs_cons (PySem.wpAny_Assign_Name (he _ s.heap S.all s _ E (.refl lo) fun cv h' tk' k r =>
    (S.mono k.le).store (s := { s with heap := h', toks := tk' }) o er off (r.flat fl) fun h₂ tk₂ ht₂ S₂ k₂ => hr.go _ _ as Q E S₂ (Nat.le_trans k.lo ht₂) fun f h₃ tk₃ as₃ lo₃ ra st => q f h₃ tk₃ as₃ lo₃ ra (((Step.of_le k.le).trans (.of_kept k₂)).trans st)) hs)
theorem Step.new {as : List Addr} {a : Addr} {h h' : Heap} (k : KeptBut F.Y h h') (ha : ∀ b, Alive h b → b < a) : Step F as h (a :: as) h' :=
  ⟨fun b q => (List.mem_cons.mp q).elim (fun e => .inr (.inl fun al => Nat.lt_irrefl _ (ha a (e ▸ al)))) .inl, k.more fun b y => .inl y⟩
theorem Ex.assignO {x : Str} {px pos : Pos} {e : Expr} {v : PV} (he : EN F (ρ ++ ow) e v) (sh : v.shal = true) (er : Erase x ρ ρ') (off : Off x ow) (hr : Ex F rest ρ' ((x, v) :: ow) r) (o : ownB F.names x = true := by first | decide +kernel | (dsimp only; decide +kernel))
    (hs : swapsWith e (some (.Name x px)) pos.line F.env = pure false := by rfl) : Ex F (.Assign [.Name x px] e pos :: rest) ρ ow r := .mk fun Z s as Q E S lo q =>
  wpAny_execs_cons (PySem.wpAny_Assign_Name (he _ s.heap S.all s _ E (.refl lo) fun a h' tk' k b c =>
    S.storeNew (s := { s with heap := h', toks := tk' }) k.le o er off b c sh fun h₂ tk₂ ht₂ S₂ k₂ => hr.go _ _ _ Q E S₂ (Nat.le_trans k.lo ht₂) fun f h₃ tk₃ as₃ lo₃ ra st => q f h₃ tk₃ as₃ lo₃ ra ((Step.new k₂ b).trans st)) hs)

inductive Then (F : Fp) (rest : List Stmt) : R → R → Prop
  | next {ρ ow : List (Str × PV)} {r : R} : Ex F rest ρ ow r → Then F rest (.next ρ ow) r
  | ret {v : PV} : Then F rest (.ret v) (.ret v)
  | cont {ρ ow : List (Str × PV)} : Then F rest (.cont ρ ow) (.cont ρ ow)
  | brk {ρ ow : List (Str × PV)} : Then F rest (.brk ρ ow) (.brk ρ ow)
noncomputable def After (F : Fp) (rest : List Stmt) (Q : Flow → Shared → Prop) (E : Value → Shared → Prop) (f : Flow) (s' : Shared) : Prop := match f with
  | .next => wpAny F.W.M F.A (execs rest F.env) Q E s'
  | f => Q f s'
theorem Then.go {Z : AS} {rest : List Stmt} {r₁ r : R} (t : Then F rest r₁ r) {s : Shared} {as : List Addr} {Q : Flow → Shared → Prop} {E : Value → Shared → Prop} (q : ∀ f h' tk' as', F.W.lo ≤ tk' → RAt F Z r f as' h' → Step F as s.heap as' h' → Q f { s with heap := h', toks := tk' })
    {f : Flow} {h' : Heap} {tk' : Nat} {as' : List Addr} (lo : F.W.lo ≤ tk') (ra : RAt F Z r₁ f as' h') (st : Step F as s.heap as' h') : After F rest Q E f { s with heap := h', toks := tk' } := by
  cases t with
  | next x =>
    obtain ⟨rfl, S⟩ := ra
    exact x.go _ _ as' Q E S lo fun f h₃ tk₃ as₃ lo₃ ra st₃ => q f h₃ tk₃ as₃ lo₃ ra (st.trans st₃)
  | ret =>
    obtain ⟨⟨cv, rfl, x⟩, e⟩ := ra
    exact q _ _ _ as' lo ⟨⟨cv, rfl, x⟩, e⟩ st
  | cont =>
    obtain ⟨rfl, S⟩ := ra
    exact q _ _ _ as' lo ⟨rfl, S⟩ st
  | brk =>
    obtain ⟨rfl, S⟩ := ra
    exact q _ _ _ as' lo ⟨rfl, S⟩ st

theorem Ex.ite {t : Expr} {b o : List Stmt} {pos : Pos} {c : Bool} (ht : EB F (ρ ++ ow) t c) (hb : c = true → ∃ r₁, Ex F b ρ ow r₁ ∧ Then F rest r₁ r) (ho : c = false → ∃ r₁, Ex F o ρ ow r₁ ∧ Then F rest r₁ r) : Ex F (.If t b o pos :: rest) ρ ow r := .mk fun Z s as Q E S lo q => by
  refine wpAny_execs_cons (wpAny_If (ht F.Xc s.heap S.all s _ E (.refl lo) fun h' tk' k => ?_))
  have S' := S.mono k.le
  cases c with
  | true =>
    obtain ⟨r₁, x, t⟩ := hb rfl
    exact x.go Z { s with heap := h', toks := tk' } as (After F rest Q E) E S' k.lo fun f h₂ tk₂ as₂ lo₂ ra st => t.go (s := s) q lo₂ ra ((Step.of_le k.le).trans st)
  | false =>
    obtain ⟨r₁, x, t⟩ := ho rfl
    exact x.go Z { s with heap := h', toks := tk' } as (After F rest Q E) E S' k.lo fun f h₂ tk₂ as₂ lo₂ ra st => t.go (s := s) q lo₂ ra ((Step.of_le k.le).trans st)
end
end
section
open PySem PySem.Calls PyProof.Rows
/-- a target's names, bound one behind the other -/
inductive Binds : List Str → List PV → List (Str × PV) → List (Str × PV) → Prop
  | nil {ρ : List (Str × PV)} : Binds [] [] ρ ρ
  | cons {x : Str} {v : PV} {xs : List Str} {row : List PV} {ρ ρ₀ ρ' : List (Str × PV)} : Erase x ρ ρ₀ → Binds xs row ((x, v) :: ρ₀) ρ' → Binds (x :: xs) (v :: row) ρ ρ'

section
variable {F : Fp} {Z : AS} {ρ ρ' ow : List (Str × PV)} {as : List Addr} {h : Heap}

theorem SttA.stAll {M : Model} {A : Around} {E : Value → Shared → Prop} {xs : List Str} {row : List PV} (b : Binds xs row ρ ρ') : ∀ {vs : List Value} {s : Shared} {Q : Unit → Shared → Prop}, SttA F Z ρ ow as s.heap →
    RepAll (F.X Z as) s.heap vs row → (∀ x ∈ xs, Off x ow) → (∀ x ∈ xs, ownB F.names x = true) → (∀ h' tk', s.toks ≤ tk' → SttA F Z ρ' ow as h' → KeptBut F.Y s.heap h' → Q () { s with heap := h', toks := tk' }) → StAll M A F.env Q E xs vs s := by
  induction b with
  | nil => intro vs s Q S r _ _ q; exact q s.heap s.toks (Nat.le_refl _) S (.refl _)
  | @cons x v xs row ρ ρ₀ ρ' er _ ih =>
    intro vs s Q S r off own q
    obtain ⟨cv, cvs, rfl, a, r⟩ := RepAll.consI r
    refine S.store (own x (.head _)) er (off x (.head _)) a fun h' tk' t1 S' k => ?_
    exact ih S' (r.keep fun a o n e => k a o (fun y => n (.inr (.inl y))) e) (fun y hy => off y (.tail _ hy)) (fun y hy => own y (.tail _ hy)) fun h'' tk'' t2 S'' k' => q h'' tk'' (Nat.le_trans t1 t2) S'' (k.trans k')

/-- what an iterator alone has turned -/
theorem SttA.walk (S : SttA F Z ρ ow as h) {h' : Heap} {wr : List Addr} (k : ∀ b o, b ∉ wr → h.get? b = some o → h'.get? b = some o) (hz : ∀ b ∈ wr, Z b) (hal : ∀ b ∈ wr, Alive h' b) (h0 : ∀ b ∈ wr, ¬ Alive F.h₀ b) : SttA F Z ρ ow as h' := by
  obtain ⟨m, f, vs, oa⟩ := S.frame
  have yw : ∀ b, F.Y b → b ∉ wr := fun b y q => (S.zal b (hz b q)).2.1 y
  have kx : ∀ a o, ¬ F.X Z as a → h.get? a = some o → h'.get? a = some o := fun a o n e => k a o (fun q => n (.inr (.inr (.inr (hz a q))))) e
  refine ⟨S.room, S.base, S.xalive, S.kind, S.names, S.globals, S.builtins, fun a o e => k a o (fun q => h0 a q ⟨o, e⟩) (S.le a o e), S.ynew, S.yis, S.cells, fun a z => ?_, m, f.keep fun a o y e => k a o (yw a y) e, fun x v l => ?_, ?_⟩
  · obtain ⟨⟨o, e⟩, r⟩ := S.zal a z
    by_cases q : a ∈ wr
    · exact ⟨hal a q, r⟩
    · exact ⟨⟨o, k a o q e⟩, r⟩
  · obtain ⟨ho, cv, e, r⟩ := vs x v l
    exact ⟨ho, cv, e, r.keep kx⟩
  · have ow : ∀ a ∈ as, a ∉ wr := fun a ha q => (S.zal a (hz a q)).2.2 ha
    clear vs
    have gen : ∀ {as' : List Addr} {ow' : List (Str × PV)}, OwnAll F (F.X Z as) h m as' ow' → (∀ a ∈ as', a ∉ wr) → OwnAll F (F.X Z as) h' m as' ow' := by
      intro as' ow' oa
      induction oa with
      | nil => intro _; exact .nil
      | cons a b c d e f _ ih => intro hw; exact .cons a b (c.keep kx fun o q => k _ o (hw _ (.head _)) q) d e f (ih fun z q => hw z (.tail _ q))
    exact gen oa ow

theorem SttA.more (S : SttA F Z ρ ow as h) {h' : Heap} {Z' : AS} (le : Le h h') (hz : ∀ a, Z' a → Z a ∨ (¬ Alive h a ∧ Alive h' a)) : SttA F Z' ρ ow as h' := by
  obtain ⟨m, f, vs, oa⟩ := S.frame
  have st : ∀ a, F.X Z' as a → Alive h a → F.X Z as a := fun a q al => by
    rcases q with q | q | q | q
    · exact .inl q
    · exact .inr (.inl q)
    · exact .inr (.inr (.inl q))
    · exact (hz a q).elim (fun z => .inr (.inr (.inr z))) fun z => absurd al z.1
  refine ⟨S.room, S.base, S.xalive, S.kind, S.names, S.globals, S.builtins, S.le.trans le, S.ynew, S.yis, S.cells, fun a z => ?_, m, f.mono le, fun x v l => ?_, (oa.set st).mono le⟩
  · rcases hz a z with z | ⟨d, al⟩
    · obtain ⟨al, r⟩ := S.zal a z
      exact ⟨al.mono le, r⟩
    · exact ⟨al, fun y => d (S.yalive y), fun q => d (oa.alive a q)⟩
  · obtain ⟨ho, cv, e, r⟩ := vs x v l
    exact ⟨ho, cv, e, (r.set st).mono le⟩

theorem SttA.leave {wr : List Addr} (S : SttA F (fun a => Z a ∨ a ∈ wr) ρ ow as h) {h' : Heap} (k : ∀ b o, b ∉ wr → h.get? b = some o → h'.get? b = some o) (hz : ∀ a, Z a → a ∉ wr) (h0 : ∀ b ∈ wr, ¬ Alive F.h₀ b) : SttA F Z ρ ow as h' := by
  obtain ⟨m, f, vs, oa⟩ := S.frame
  have yw : ∀ b, F.Y b → b ∉ wr := fun b y q => (S.zal b (.inr q)).2.1 y
  have kx : ∀ a o, ¬ F.X (fun a => Z a ∨ a ∈ wr) as a → h.get? a = some o → h'.get? a = some o := fun a o n e => k a o (fun q => n (.inr (.inr (.inr (.inr q))))) e
  have st : ∀ a, F.X Z as a → Alive h' a → F.X (fun a => Z a ∨ a ∈ wr) as a := fun a q _ => q.imp id (Or.imp id (Or.imp id .inl))
  refine ⟨S.room, S.base, S.xalive, S.kind, S.names, S.globals, S.builtins, fun a o e => k a o (fun q => h0 a q ⟨o, e⟩) (S.le a o e), S.ynew, S.yis, S.cells, fun a z => ?_, m, f.keep fun a o y e => k a o (yw a y) e, fun x v l => ?_, ?_⟩
  · obtain ⟨⟨o, e⟩, r⟩ := S.zal a (.inl z)
    exact ⟨⟨o, k a o (hz a z) e⟩, r⟩
  · obtain ⟨ho, cv, e, r⟩ := vs x v l
    exact ⟨ho, cv, e, (r.keep kx).set st⟩
  · have ow : ∀ a ∈ as, a ∉ wr := fun a ha q => (S.zal a (.inr q)).2.2 ha
    clear vs
    have gen : ∀ {as' : List Addr} {ow' : List (Str × PV)}, OwnAll F (F.X (fun a => Z a ∨ a ∈ wr) as) h m as' ow' → (∀ a ∈ as', a ∉ wr) → OwnAll F (F.X (fun a => Z a ∨ a ∈ wr) as) h' m as' ow' := by
      intro as' ow' oa
      induction oa with
      | nil => intro _; exact .nil
      | cons a b c d e f _ ih => intro hw; exact .cons a b (c.keep kx fun o q => k _ o (hw _ (.head _)) q) d e f (ih fun z q => hw z (.tail _ q))
    exact (gen oa ow).set st

theorem SttA.disj (S : SttA F Z ρ ow as h) : ∀ a ∈ as, ¬ F.Y a := by
  obtain ⟨m, f, vs, oa⟩ := S.frame
  clear vs
  have gen : ∀ {as' : List Addr} {ow' : List (Str × PV)}, OwnAll F (F.X Z as) h m as' ow' → ∀ a ∈ as', ¬ F.Y a := by
    intro as' ow' oa
    induction oa with
    | nil => intro a q; cases q
    | cons a b c d e f _ ih =>
      intro z q
      rcases List.mem_cons.mp q with rfl | q
      · exact e
      · exact ih z q
  exact gen oa
end

section
variable {F : Fp} {ρ ρ' ow : List (Str × PV)} {r : R} {rest : List Stmt}

/-- a for: turns 0 .. k - 1 go on; then it is at its end, or leaves in turn k -/
theorem for_sem {target iter : Expr} {body orelse : List Stmt} {pos : Pos} {xs : List Str} {rows : List (List PV)} (st : Nat → List (Str × PV) × List (Str × PV)) (k : Nat)
    (hit : ∀ X h, Cx F.W F.A F.n X F.env h F.names ρ → EvIter F.W F.A X F.env h iter target xs rows) (hst : st 0 = (ρ, ow)) (own : ∀ x ∈ xs, ownB F.names x = true)
    (turn : ∀ i row, i < k → rows[i]? = some row → (∀ x ∈ xs, Off x (st i).2) ∧ ∃ ρ', Binds xs row (st i).1 ρ' ∧ (Ex F body ρ' (st i).2 (.next (st (i + 1)).1 (st (i + 1)).2) ∨ Ex F body ρ' (st i).2 (.cont (st (i + 1)).1 (st (i + 1)).2)))
    {Z : AS} {s : Shared} {as : List Addr} {Q : Flow → Shared → Prop} {E : Value → Shared → Prop} (S : SttA F Z ρ ow as s.heap) (lo : F.W.lo ≤ s.toks)
    (fin : (k = rows.length ∧ ∀ h₂ tk₂ as₁, F.W.lo ≤ tk₂ → SttA F Z (st k).1 (st k).2 as₁ h₂ → Step F as s.heap as₁ h₂ → wpAny F.W.M F.A (execs orelse F.env) Q (notedBy F.W.M F.A F.env (cameBackBy F.W.M F.A F.env E)) { s with heap := h₂, toks := tk₂ }) ∨
      (∃ row v, rows[k]? = some row ∧ (∀ cv h' tk', F.W.lo ≤ tk' → Rep F.Xc h' cv v → Le F.h₀ h' → Step F as s.heap [] h' → Q (.ret cv) { s with heap := h', toks := tk' }) ∧ (∀ x ∈ xs, Off x (st k).2) ∧ ∃ ρ', Binds xs row (st k).1 ρ' ∧ Ex F body ρ' (st k).2 (.ret v)))
    (hs : ∀ x, foldedSetIterable iter F.env x = pure x := by intro _; rfl) : wpAny F.W.M F.A (exec (.For target iter body orelse pos) F.env) Q E s := by
  have hk : k ≤ rows.length := by
    rcases fin with ⟨e, _⟩ | ⟨row, v, e, _⟩
    · omega
    · have := (List.getElem?_eq_some_iff.mp e).1
      omega
  refine PySem.wpAny_For (hit (F.X Z as) s.heap S.full s _ E (.refl lo) fun I fp wr Bv St h' tk' le' T hB hst0 hfp hwr => ?_) hs
  have le := le'.le
  have hwa : ∀ b ∈ wr, Alive h' b := T.alive 0 h' hst0
  have S₀ : SttA F (fun a => Z a ∨ a ∈ wr) ρ ow as h' := S.more le fun a z => z.imp id fun w => ⟨hwr a w, hwa a w⟩
  have h0w : ∀ b ∈ wr, ¬ Alive F.h₀ b := fun b w al => hwr b w (al.mono S.le)
  refine codeAny_forLoop_any
    (fun c s' => ∃ h₁ tk i as₁, s' = { s with heap := h₁, toks := tk } ∧ St i h₁ ∧ i ≤ k ∧ c = rows.length + 1 - i ∧ F.W.lo ≤ tk ∧ SttA F (fun a => Z a ∨ a ∈ wr) (st i).1 (st i).2 as₁ h₁ ∧ (∀ a ∈ as₁, a ∈ as ∨ ¬ Alive h' a ∨ F.Y a) ∧ KeptBut (fun b => F.Y b ∨ b ∈ as ∨ b ∈ wr) h' h₁) ?_ (rows.length + 1)
    ⟨h', tk', 0, as, rfl, hst0, Nat.zero_le _, rfl, le'.lo, by rw [hst]; exact S₀, fun a q => .inl q, .refl _⟩
  rintro c s' ⟨h₁, tk₁, i, as₁, rfl, hst₁, hi, rfl, lo₁, S₁, hg, hk₁⟩
  have stepBack : ∀ {h₂ : Heap} {as₂ : List Addr}, (∀ a ∈ as₂, a ∈ as ∨ ¬ Alive h' a ∨ F.Y a) → KeptBut (fun b => F.Y b ∨ b ∈ as ∨ b ∈ wr) h' h₂ → Step F as s.heap as₂ h₂ := fun hg hk => by
    refine ⟨fun a q => (hg a q).imp id (Or.imp (fun d al => d (al.mono le)) id), fun b o n e => hk b o (fun z => ?_) (le b o e)⟩
    rcases z with z | z | z
    · exact n (.inl z)
    · exact n (.inr z)
    · exact hwr b z ⟨o, e⟩
  -- a turn's names stored
  have bind : ∀ {row : List PV} {ρ' : List (Str × PV)} {K : Unit → Shared → Prop} {E' : Value → Shared → Prop} {vs : List Value} {h₂ : Heap} {tk₂ : Nat}, rows[i]? = some row → Bv i vs → (∀ x ∈ xs, Off x (st i).2) → Binds xs row (st i).1 ρ' → St (i + 1) h₂ →
      (∀ b o, b ∉ wr → h₁.get? b = some o → h₂.get? b = some o) →
      (∀ h₃ tk₃, tk₂ ≤ tk₃ → SttA F (fun a => Z a ∨ a ∈ wr) ρ' (st i).2 as₁ h₃ → St (i + 1) h₃ → KeptBut (fun b => F.Y b ∨ b ∈ as ∨ b ∈ wr) h' h₃ → K () { s with heap := h₃, toks := tk₃ }) → StAll F.W.M F.A F.env K E' xs vs { s with heap := h₂, toks := tk₂ } := by
    intro row ρ' K E' vs h₂ tk₂ hrow hBv off hb hst₂ kw q'
    have S₂ : SttA F (fun a => Z a ∨ a ∈ wr) (st i).1 (st i).2 as₁ h₂ := S₁.walk kw (fun b w => .inr w) (T.alive _ _ hst₂) h0w
    have k₂ : KeptBut (fun b => F.Y b ∨ b ∈ as ∨ b ∈ wr) h' h₂ := hk₁.trans fun b o n e => kw b o (fun w => n (.inr (.inr w))) e
    have rr : RepAll (F.X (fun a => Z a ∨ a ∈ wr) as₁) h₂ vs row := by
      have r1 := hB i vs row hBv hrow
      have r2 : RepAll (fun a => F.X Z as a ∨ a ∈ wr) h₂ vs row := r1.keep fun a o n e => k₂ a o (fun z => by
        rcases z with z | z | z
        · exact n (.inl (.inr (.inl z)))
        · exact n (.inl (.inr (.inr (.inl z))))
        · exact n (.inr z)) e
      have r3 : RepAll (F.X (fun a => Z a ∨ a ∈ wr) as₁) h' vs row := r1.set fun a z al => by
        rcases z with z | z | z | z | z
        · exact .inl (.inl z)
        · exact .inl (.inr (.inl z))
        · rcases hg a z with z | z | z
          · exact .inl (.inr (.inr (.inl z)))
          · exact absurd al z
          · exact .inl (.inr (.inl z))
        · exact .inl (.inr (.inr (.inr z)))
        · exact .inr z
      have r4 : RepAll (fun a => (F.X Z as a ∨ a ∈ wr) ∨ F.X (fun a => Z a ∨ a ∈ wr) as₁ a) h' vs row := r1.set fun a z al => by
        rcases z with z | z
        · exact z
        · rcases z with z | z | z | z | z
          · exact .inl (.inl z)
          · exact .inl (.inr (.inl z))
          · rcases hg a z with z | z | z
            · exact .inl (.inr (.inr (.inl z)))
            · exact absurd al z
            · exact .inl (.inr (.inl z))
          · exact .inl (.inr (.inr (.inr z)))
          · exact .inr z
      have r5 : RepAll (fun a => (F.X Z as a ∨ a ∈ wr) ∨ F.X (fun a => Z a ∨ a ∈ wr) as₁ a) h₂ vs row := r4.keep fun a o n e => k₂ a o (fun z => by
        rcases z with z | z | z
        · exact n (.inl (.inl (.inr (.inl z))))
        · exact n (.inl (.inl (.inr (.inr (.inl z)))))
        · exact n (.inl (.inr z))) e
      exact r5.set fun a z _ => .inr z
    refine SttA.stAll (s := { s with heap := h₂, toks := tk₂ }) hb S₂ rr off own fun h₃ tk₃ t3 S₃ k₃ => q' h₃ tk₃ t3 S₃ ?_ (k₂.trans (k₃.more fun b y => .inl y))
    exact T.frame _ _ _ hst₂ fun b hb o e => k₃ b o (fun y => (hfp b hb).2 (.inr (.inl y))) e
  by_cases hlt : i < k
  · obtain ⟨row, hrow⟩ : ∃ row, rows[i]? = some row := ⟨rows[i]'(by omega), List.getElem?_eq_getElem _⟩
    obtain ⟨off, ρ', hb, hbody⟩ := turn i row hlt hrow
    refine T.item F.env i _ _ _ _ (by omega) hst₁ lo₁ fun vs h₂ tk₂ t2 hBv hlen hst₂ kw => bind hrow hBv off hb hst₂ kw fun h₃ tk₃ t3 S₃ st₃ k₃ => ?_
    have lo₃ : F.W.lo ≤ tk₃ := Nat.le_trans lo₁ (Nat.le_trans t2 t3)
    have after : ∀ {h₄ : Heap} {tk₄ : Nat} {as₄ : List Addr}, F.W.lo ≤ tk₄ → SttA F (fun a => Z a ∨ a ∈ wr) (st (i + 1)).1 (st (i + 1)).2 as₄ h₄ → Step F as₁ h₃ as₄ h₄ → ∃ m, m < rows.length + 1 - i ∧ ∃ h₁ tk i as₁, ({ s with heap := h₄, toks := tk₄ } : Shared) = { s with heap := h₁, toks := tk } ∧ St i h₁ ∧ i ≤ k ∧ m = rows.length + 1 - i ∧ F.W.lo ≤ tk ∧ SttA F (fun a => Z a ∨ a ∈ wr) (st i).1 (st i).2 as₁ h₁ ∧ (∀ a ∈ as₁, a ∈ as ∨ ¬ Alive h' a ∨ F.Y a) ∧ KeptBut (fun b => F.Y b ∨ b ∈ as ∨ b ∈ wr) h' h₁ := by
      intro h₄ tk₄ as₄ lo₄ S₄ st₄
      have hfp1 : ∀ b ∈ fp, ¬ F.Y b ∧ b ∉ as₁ := fun b hb => ⟨fun y => (hfp b hb).2 (.inr (.inl y)), fun q => by
        rcases hg b q with z | z | z
        · exact (hfp b hb).2 (.inr (.inr (.inl z)))
        · exact z (hfp b hb).1
        · exact (hfp b hb).2 (.inr (.inl z))⟩
      refine ⟨rows.length + 1 - (i + 1), by omega, h₄, tk₄, i + 1, as₄, rfl, T.frame _ _ _ st₃ fun b hb o e => st₄.kept b o (fun z => z.elim (hfp1 b hb).1 (hfp1 b hb).2) e, hlt, rfl, lo₄, S₄, fun a q => ?_, fun b o n e => ?_⟩
      · rcases st₄.grow a q with z | z | z
        · exact hg a z
        · by_cases ha : a ∈ as
          · exact .inl ha
          · by_cases hy : F.Y a
            · exact .inr (.inr hy)
            · by_cases hw : a ∈ wr
              · exact absurd (T.alive _ _ st₃ a hw) z
              · refine .inr (.inl fun ⟨o, e⟩ => z ⟨o, k₃ a o (fun q => ?_) e⟩)
                rcases q with q | q | q
                · exact hy q
                · exact ha q
                · exact hw q
        · exact .inr (.inr z)
      · refine st₄.kept b o (fun z => ?_) (k₃ b o n e)
        rcases z with z | z
        · exact n (.inl z)
        · rcases hg b z with z | z | z
          · exact n (.inr (.inl z))
          · exact z ⟨o, e⟩
          · exact n (.inl z)
    rcases hbody with x | x
    · exact x.go _ _ as₁ _ _ S₃ lo₃ fun f h₄ tk₄ as₄ lo₄ ra st₄ => by
        obtain ⟨rfl, S₄⟩ := ra
        exact after lo₄ S₄ st₄
    · exact x.go _ _ as₁ _ _ S₃ lo₃ fun f h₄ tk₄ as₄ lo₄ ra st₄ => by
        obtain ⟨rfl, S₄⟩ := ra
        exact after lo₄ S₄ st₄
  · have hik : i = k := by omega
    subst hik
    rcases fin with ⟨e, hr⟩ | ⟨row, v, hrow, q, off, ρ', hb, hbody⟩
    · rw [e] at hst₁
      refine T.done _ _ _ hst₁ fun h₂ tk₂ t2 kw => ?_
      have S₂ : SttA F Z (st i).1 (st i).2 as₁ h₂ := S₁.leave kw (fun a z w => hwr a w (S.zal a z).1) h0w
      have k₂ : KeptBut (fun b => F.Y b ∨ b ∈ as ∨ b ∈ wr) h' h₂ := hk₁.trans fun b o n e => kw b o (fun w => n (.inr (.inr w))) e
      exact hr h₂ tk₂ as₁ (Nat.le_trans lo₁ t2) S₂ (stepBack hg k₂)
    · have hi' : i < rows.length := (List.getElem?_eq_some_iff.mp hrow).1
      refine T.item F.env i _ _ _ _ hi' hst₁ lo₁ fun vs h₂ tk₂ t2 hBv hlen hst₂ kw => bind hrow hBv off hb hst₂ kw fun h₃ tk₃ t3 S₃ st₃ k₃ => ?_
      have lo₃ : F.W.lo ≤ tk₃ := Nat.le_trans lo₁ (Nat.le_trans t2 t3)
      exact hbody.go _ _ as₁ _ _ S₃ lo₃ fun f h₄ tk₄ as₄ lo₄ ra st₄ => by
        obtain ⟨⟨cv, rfl, rp, le4⟩, rfl⟩ := ra
        refine q cv h₄ tk₄ lo₄ rp le4 ⟨fun _ z => (nomatch z), ?_⟩
        refine (stepBack (as₂ := []) (fun _ z => (nomatch z)) (fun b o n e => ?_)).kept
        refine st₄.kept b o (fun z => ?_) (k₃ b o n e)
        rcases z with z | z
        · exact n (.inl z)
        · rcases hg b z with z | z | z
          · exact n (.inr (.inl z))
          · exact z ⟨o, e⟩
          · exact n (.inl z)


/-- a for: turns 0 .. k - 1 go on; then it is at its end, or leaves in turn k -/
theorem Ex.forK {target iter : Expr} {body : List Stmt} {pos : Pos} {xs : List Str} {rows : List (List PV)} (st : Nat → List (Str × PV) × List (Str × PV)) (k : Nat)
    (hit : ∀ X h, Cx F.W F.A F.n X F.env h F.names ρ → EvIter F.W F.A X F.env h iter target xs rows) (hst : st 0 = (ρ, ow)) (own : ∀ x ∈ xs, ownB F.names x = true)
    (turn : ∀ i row, i < k → rows[i]? = some row → (∀ x ∈ xs, Off x (st i).2) ∧ ∃ ρ', Binds xs row (st i).1 ρ' ∧ (Ex F body ρ' (st i).2 (.next (st (i + 1)).1 (st (i + 1)).2) ∨ Ex F body ρ' (st i).2 (.cont (st (i + 1)).1 (st (i + 1)).2)))
    (fin : (k = rows.length ∧ Ex F rest (st k).1 (st k).2 r) ∨ (∃ row v, rows[k]? = some row ∧ r = .ret v ∧ (∀ x ∈ xs, Off x (st k).2) ∧ ∃ ρ', Binds xs row (st k).1 ρ' ∧ Ex F body ρ' (st k).2 (.ret v)))
    (hs : ∀ x, foldedSetIterable iter F.env x = pure x := by intro _; rfl) : Ex F (.For target iter body [] pos :: rest) ρ ow r := .mk fun Z s as Q E S lo q => by
  refine wpAny_execs_cons (for_sem st k hit hst own turn S lo ?_ hs)
  rcases fin with ⟨e, hr⟩ | ⟨row, v, hrow, rfl, off, hb⟩
  · exact .inl ⟨e, fun h₂ tk₂ as₁ lo₂ S₂ stp => wpAny_execs_nil (hr.go Z { s with heap := h₂, toks := tk₂ } as₁ Q E S₂ lo₂ fun f h₃ tk₃ as₃ lo₃ ra st₃ => q f h₃ tk₃ as₃ lo₃ ra (stp.trans st₃))⟩
  · exact .inr ⟨row, v, hrow, fun cv h' tk' lo' rp le stp => q (.ret cv) h' tk' [] lo' ⟨⟨cv, rfl, rp, le⟩, rfl⟩ stp, off, hb⟩
end
end
section
open PySem PySem.Calls PyProof.Rows
theorem comb_bind {kindOf : Str → Option NameKind} : ∀ (xs : List Str) (vs : List Value) (m cm : Str → Option Value) (y : Str),
    (if kindOf y = some .local then bindL kindOf (xs.zip vs) m y else bindC kindOf (xs.zip vs) cm y) = updAll (fun y => if kindOf y = some .local then m y else cm y) xs vs y
  | [], _, m, cm, y => rfl
  | _ :: _, [], m, cm, y => rfl
  | x :: xs, v :: vs, m, cm, y => by
    rw [List.zip_cons_cons, bindL, bindC, comb_bind xs vs, updAll]
    congr 1
    funext z
    by_cases hx : kindOf x = some .local
    · rw [if_pos hx, if_pos hx]
      by_cases hz : z = x
      · subst hz; simp [upd, hx]
      · simp [upd, hz]
    · rw [if_neg hx, if_neg hx]
      by_cases hz : z = x
      · subst hz; simp [upd, hx]
      · simp [upd, hz]

/-- a scope's names, as a def has them -/
noncomputable def defOk (names : List (Str × NameKind)) (ps : List Str) : Bool :=
  names.all (fun p => p.2 != .free && names.lookup p.1 == some p.2) && ps.all (fun x => names.lookup x == some .local || names.lookup x == some .cell) && decide ps.Nodup

section
variable {prog : Program} {w : World} {A : Around} {s : Shared}
theorem call_cellsT {R : Result → Shared → Prop} {a : Addr} {o : Obj} {fd : FuncData} {body : List Stmt} {vals : List Value} {binds : List (Str × Value)}
    (hroom : A.depth < recursionLimit) (ho : s.heap.get? a = some o) (hdata : o.data = .func fd) (hlim : s.heap.NoLimit) (hcd : s.heap.CodeRec fd.code fd.qualname)
    (hbody : fd.body = .stmts body) (hbind : bindArgs fd ⟨vals, []⟩ = pure binds) (hclo : fd.closure = [])
    (hkind : ∀ x ∈ binds, fd.scope.names.lookup x.1 = some .local ∨ (fd.scope.names.lookup x.1 = some .cell ∧ ((cellsFrom (s.heap.objs.size + 1) fd.scope.names []).lookup x.1).isSome = true))
    (h : ∀ s₁, s.toks ≤ s₁.toks → InCallC s (callEnvC fd s.heap.objs.size a).locals (bindL (callEnvC fd s.heap.objs.size a).kindOf binds fun _ => none) (callEnvC fd s.heap.objs.size a).cells
        (bindC (callEnvC fd s.heap.objs.size a).kindOf binds fun _ => none) s₁ →
      wpAny (model prog w) (A.deeper (callEnvC fd s.heap.objs.size a)) (execs body (callEnvC fd s.heap.objs.size a)) (fun f s' => R (.ok (.ret (match f with | .ret v => v | _ => .none))) s')
        (fun e s' => wpAny (model prog w) (A.deeper (callEnvC fd s.heap.objs.size a)) (leaving (callEnvC fd s.heap.objs.size a) e) (fun _ s'' => R (.error e) s'') (fun e' s'' => R (.error e') s'') s') s₁)
    (hco : fd.scope.isCoroutine = false) (hgen : fd.scope.isGenerator = false) (hk : fd.scope.kind = .function) :
    codeAny (model prog w) A (.call (.ref a) ⟨vals, []⟩) R s := by
  refine codeAny_call_function hroom ho hdata hco hgen hbody hcd ?_
  rw [hbind, hclo]
  refine wpAny_pure (wpAny_toks (wpAny_newFunctionEnv_cells hk hkind fun env he s' x => fun hle => ?_))
  subst he
  exact ⟨hlim.keeps x.toInCall.keep, codeAny_func (h s' hle x)⟩
end

noncomputable def ScOk (d : DefRec) (nms : List (Str × NameKind)) : Prop := (d.scope.kind = .function ∧ d.scope.isGenerator = false ∧ d.scope.isCoroutine = false) ∧ d.scope.names = nms

theorem Fun.of {W : Wd} {n : Nat} {d : DefRec} {args : List PV} {v : PV} (ps : List Str) {nms : List (Str × NameKind)} (hsc : ScOk d nms)
    (body : ∀ A Xc env Y h₀, Ex ⟨W, A, n, Xc, env, Y, h₀, nms⟩ d.body (ps.zip args) [] (.ret v))
    (hb : ∀ pm code doc cvs, cvs.length = args.length → bindArgs (docDef d.name d.params d.body d.scope pm code doc) ⟨cvs, []⟩ = pure (ps.zip cvs))
    (hok : defOk nms ps = true) (hl : ps.length = args.length) : Fun W (n + 1) d args v := by
  obtain ⟨⟨hk, hgen, hco⟩, hnm⟩ := hsc
  subst hnm
  intro A X s a o pm code doc cvs Q E O hoo hdd hcc r post
  simp only [defOk, Bool.and_eq_true] at hok
  obtain ⟨⟨o1, o2⟩, o3⟩ := hok
  have allL : ∀ {x : Str} {k : NameKind}, (x, k) ∈ d.scope.names → d.scope.names.lookup x = some k ∧ k ≠ .free := fun {x k} hx => by
    have := List.all_eq_true.mp o1 _ hx
    simp only [Bool.and_eq_true, bne_iff_ne, beq_iff_eq] at this
    exact ⟨this.2, this.1⟩
  have notFree : ∀ x, d.scope.names.lookup x ≠ some .free := fun x e => (allL (mem_of_lookup e)).2 rfl
  have cellAt : ∀ x m, (x, NameKind.cell) ∈ d.scope.names → ∃ c, (cellsFrom m d.scope.names []).lookup x = some c ∧ m ≤ c := fun x m hx => cellsFrom_mine d.scope.names m [] hx
  have hps : ∀ x ∈ ps, d.scope.names.lookup x = some .local ∨ d.scope.names.lookup x = some .cell := fun x hx => by
    have := List.all_eq_true.mp o2 _ hx
    simpa using this
  refine wpAny_call (call_cellsT (fd := docDef d.name d.params d.body d.scope pm code doc) O.room.lim hoo hdd O.base.lim hcc rfl (hb pm code doc cvs r.length) rfl (fun x hx => ?_) (fun s₁ ht hi => ?_) hco hgen hk)
  · have hx' : x.1 ∈ ps := (List.of_mem_zip (show (x.1, x.2) ∈ ps.zip cvs from hx)).1
    rcases hps x.1 hx' with e | e
    · exact .inl e
    · obtain ⟨c, hc, _⟩ := cellAt x.1 (s.heap.objs.size + 1) (mem_of_lookup e)
      exact .inr ⟨e, by show ((cellsFrom _ d.scope.names []).lookup x.1).isSome = true; rw [hc]; rfl⟩
  · generalize henv : callEnvC (docDef d.name d.params d.body d.scope pm code doc) s.heap.objs.size a = env at hi ⊢
    have eK : ∀ x, env.kindOf x = d.scope.names.lookup x := fun x => by rw [← henv]; rfl
    have eC : env.cells = cellsFrom (s.heap.objs.size + 1) d.scope.names [] := by rw [← henv]; rfl
    have eL : env.locals = s.heap.objs.size := by rw [← henv]; rfl
    obtain ⟨h₁, tk, rfl⟩ := hi.toInCall.same
    have Lge : ∀ x c, env.cells.lookup x = some c → env.locals < c := fun x c hc => hi.above x c (mem_of_lookup hc)
    have dead : ∀ b, env.locals ≤ b → ¬ Alive s.heap b := fun b hb ⟨o, e⟩ => by
      have := Heap.lt_size e
      rw [eL] at hb
      exact absurd this (Nat.not_lt.mpr hb)
    let Y : AS := fun b => b = env.locals ∨ ∃ x, env.kindOf x = some .cell ∧ env.cells.lookup x = some b
    have S : SttA ⟨W, A.deeper env, n, X, env, Y, s.heap, d.scope.names⟩ (fun _ => False) (ps.zip args) [] [] h₁ := by
      refine ⟨O.room.deeper env, O.base, O.ok.alive, ?_, ?_, ?_, ?_, hi.toInCall.keep, ?_, fun b y => y, fun x q => ?_, fun a z => z.elim, ?_⟩
      · show env.scope.kind = _
        rw [← henv]; exact hk
      · show env.scope.names = _
        rw [← henv]; rfl
      · show env.globals = _
        rw [← henv]; rfl
      · show env.builtins = _
        rw [← henv]; rfl
      · intro b y
        rcases y with y | ⟨x, _, hc⟩
        · exact dead b (Nat.le_of_eq y.symm)
        · exact dead b (Nat.le_of_lt (Lge x b hc))
      · have q' : env.kindOf x = some .cell := q.elim id fun e => absurd ((eK x).symm.trans e) (notFree x)
        obtain ⟨c, hc, _⟩ := cellAt x (s.heap.objs.size + 1) (mem_of_lookup ((eK x).symm.trans q'))
        rw [← eC] at hc
        exact ⟨c, hc, .inr ⟨x, q', hc⟩, q'⟩
      · refine ⟨fun y => if env.kindOf y = some .local then bindL env.kindOf (ps.zip cvs) (fun _ => none) y else bindC env.kindOf (ps.zip cvs) (fun _ => none) y, ⟨⟨_, hi.toInCall.ns, fun x hx => (if_pos hx).symm⟩, .inl rfl, fun x c hc _ => Nat.ne_of_gt (Lge x c hc), fun x c hx hc _ => ?_, fun x y c hx hy _ => ?_⟩, fun x u l => ?_, .nil⟩
        · have hn : ¬ env.kindOf x = some .local := by
            intro q
            rw [show env.kindOf x = some .cell from hx] at q
            cases q
          rw [if_neg hn]
          exact hi.cell x c hc
        · exact name_of_addr hi.apart (mem_of_lookup hx) (mem_of_lookup hy)
        · have rr : RepAll (Fp.X ⟨W, A.deeper env, n, X, env, Y, s.heap, d.scope.names⟩ (fun _ => False) []) h₁ cvs args := (r.set fun b q al => by
            rcases q with q | (q | ⟨x, _, hc⟩) | q | q
            · exact q
            · exact absurd al (dead b (Nat.le_of_eq q.symm))
            · exact absurd al (dead b (Nat.le_of_lt (Lge x b hc)))
            · cases q
            · exact q.elim).mono hi.toInCall.keep
          obtain ⟨cv, e, rv, hm⟩ := zip_look (m := fun y => if env.kindOf y = some .local then none else none) l rr (of_decide_eq_true o3)
          refine ⟨?_, cv, (comb_bind ps cvs _ _ x).trans e, rv⟩
          rcases hps x hm with q | q
          · exact .inl ((eK x).trans q)
          · obtain ⟨c, hc, _⟩ := cellAt x (s.heap.objs.size + 1) (mem_of_lookup q)
            rw [← eC] at hc
            exact .inr ⟨(eK x).trans q, c, hc, .inr ⟨x, (eK x).trans q, hc⟩⟩
    refine (body (A.deeper env) X env Y s.heap).go (fun _ => False) _ [] _ _ S ?_ fun f h' tk' as' lo' ra st => ?_
    · exact Nat.le_trans O.lo ht
    obtain ⟨⟨cv, rfl, rv, le⟩, _⟩ := ra
    exact post cv h' tk' ⟨le, lo'⟩ rv
end
section
open PySem PySem.Calls PyProof.Rows
/-- an owned object with new contents -/
inductive Repl (x : Str) (v v' : PV) : List (Str × PV) → List (Str × PV) → Prop
  | hit {r : List (Str × PV)} : Repl x v v' ((x, v) :: r) ((x, v') :: r)
  | miss {y : Str} {u : PV} {r r' : List (Str × PV)} : Repl x v v' r r' → Repl x v v' ((y, u) :: r) ((y, u) :: r')

section
variable {F : Fp} {Z : AS} {ρ ρ' ow ow' : List (Str × PV)} {as : List Addr} {h : Heap}

theorem OwnAll.mutate {X : AS} {m : Str → Option Value} {x : Str} {v v' : PV} (o : OwnAll F X h m as ow) (hX : ∀ a ∈ as, X a) (rp : Repl x v v' ow ow') :
    ∃ a, a ∈ as ∧ Own F.env F.Y x ∧ m x = some (.ref a) ∧ Cont X h a v ∧ ¬ F.Y a ∧ (∀ b, Alive F.h₀ b → b < a) ∧ ∀ h', KeptBut (fun b => b = a) h h' → Cont X h' a v' → OwnAll F X h' m as ow' := by
  induction o generalizing ow' with
  | nil => cases rp
  | @cons a as y u r hO hm c d e f o ih =>
    have hXa := hX a (.head _)
    cases rp with
    | hit =>
      refine ⟨a, .head _, hO, hm, c, e, d, fun h' k c' => .cons hO hm c' d e f ?_⟩
      have gen : ∀ {as' : List Addr} {ow' : List (Str × PV)}, OwnAll F X h m as' ow' → a ∉ as' → OwnAll F X h' m as' ow' := by
        intro as' ow' oa
        induction oa with
        | nil => intro _; exact .nil
        | @cons b bs _ _ _ a1 b1 c1 d1 e1 f1 _ ih1 =>
          intro hn
          have hne : b ≠ a := fun q => hn (q ▸ .head _)
          exact .cons a1 b1 (c1.keep (fun z o n q => k z o (fun w => n (w ▸ hXa)) q) fun o q => k _ o hne q) d1 e1 f1 (ih1 fun q => hn (.tail _ q))
      exact gen o f
    | miss rp =>
      obtain ⟨b, hb, hO', hm', c', e', d', go⟩ := ih (fun z q => hX z (.tail _ q)) rp
      have hne : a ≠ b := fun q => f (q ▸ hb)
      have hXb := hX b (.tail _ hb)
      exact ⟨b, .tail _ hb, hO', hm', c', e', d', fun h' k c2 => .cons hO hm (c.keep (fun z o n q => k z o (fun w => n (w ▸ hXb)) q) fun o q => k _ o hne q) d e f (go h' k c2)⟩

theorem SttA.mutate (S : SttA F Z ρ ow as h) {x : Str} {v v' : PV} (rp : Repl x v v' ow ow') :
    ∃ a, a ∈ as ∧ Loads F.env h x (.ref a) ∧ Cont (F.X Z as) h a v ∧ ∀ h', KeptBut (fun b => b = a) h h' → Cont (F.X Z as) h' a v' → SttA F Z ρ ow' as h' := by
  obtain ⟨m, f, vs, oa⟩ := S.frame
  obtain ⟨a, ha, hO, hm, c, hY, dead, go⟩ := oa.mutate (fun a q => .inr (.inr (.inl q))) rp
  refine ⟨a, ha, f.loads hO hm, c, fun h' k c' => ?_⟩
  have kx : ∀ b o, ¬ F.X Z as b → h.get? b = some o → h'.get? b = some o := fun b o n e => k b o (fun q => n (.inr (.inr (.inl (q ▸ ha))))) e
  refine ⟨S.room, S.base, S.xalive, S.kind, S.names, S.globals, S.builtins, fun b o e => k b o (fun q => ?_) (S.le b o e), S.ynew, S.yis, S.cells, fun b z => ?_, m, f.keep fun b o y e => k b o (fun q => hY (q ▸ y)) e, fun y u l => ?_, go h' k c'⟩
  · exact Nat.lt_irrefl _ (dead a ⟨o, q ▸ e⟩)
  · obtain ⟨⟨o, e⟩, ny, na⟩ := S.zal b z
    exact ⟨⟨o, k b o (fun q => na (q ▸ ha)) e⟩, ny, na⟩
  · obtain ⟨ho, cv, e, r⟩ := vs y u l
    exact ⟨ho, cv, e, r.keep kx⟩

theorem Step.mut {a : Addr} {h h' : Heap} (ha : a ∈ as) (k : KeptBut (fun b => b = a) h h') : Step F as h as h' := ⟨fun b q => .inl q, k.more fun b e => .inr (e ▸ ha)⟩

/-- fewer names -/
inductive Sub : List (Str × PV) → List (Str × PV) → Prop
  | nil {ρ : List (Str × PV)} : Sub [] ρ
  | cons {x : Str} {v : PV} {r ρ : List (Str × PV)} : Look ρ x v → Sub r ρ → Sub ((x, v) :: r) ρ
theorem Sub.look (s : Sub ρ' ρ) : ∀ {x : Str} {v : PV}, Look ρ' x v → Look ρ x v := by
  induction s with
  | nil => intro x v l; cases l
  | cons a _ ih =>
    intro x v l
    cases l with
    | head => exact a
    | tail l => exact ih l
theorem SttA.sub (S : SttA F Z ρ ow as h) (s : Sub ρ' ρ) : SttA F Z ρ' ow as h :=
  ⟨S.room, S.base, S.xalive, S.kind, S.names, S.globals, S.builtins, S.le, S.ynew, S.yis, S.cells, S.zal, let ⟨m, f, v, o⟩ := S.frame; ⟨m, f, fun x u l => v x u (s.look l), o⟩⟩
end

section
variable {F : Fp} {ρ ρ' ow ow' : List (Str × PV)} {r : R} {rest : List Stmt}

theorem Ex.weak {ss : List Stmt} (s : Sub ρ' ρ) (x : Ex F ss ρ' ow r) : Ex F ss ρ ow r := .mk fun Z s' as Q E S lo q => x.go Z s' as Q E (S.sub s) lo q
theorem Ex.done (s : Sub ρ' ρ) : Ex F [] ρ ow (.next ρ' ow) := .weak s .nil



theorem interactive_no {env : Env} (hk : env.scope.kind = .function) : interactive env = false := by
  unfold interactive
  rw [hk]
  rfl

theorem Ex.append {x : Str} {px apos pos spos : Pos} {e : Expr} {v : PV} {l : List PV} (he : E1 F ρ e v ∨ (E1 F (ρ ++ ow) e v ∧ v.flat = true)) (rp : Repl x (.list l) (.list (l ++ [v])) ow ow') (hl : l.length ≤ 1000) (hr : Ex F rest ρ ow' r)
    (hs : starEach [e] F.env = [(false, eval e F.env)] := by rfl) (hline : (apos.endLine == pos.line) = true := by rfl) (hd : (x == ("__debug__" : Str)) = false := by first | decide +kernel | (dsimp only; decide +kernel)) (hcd : (x == ("__classdict__" : Str)) = false := by first | decide +kernel | (dsimp only; decide +kernel)) :
    Ex F (.Expr (.Call (.Attribute (.Name x px) "append" apos) [e] [] pos) spos :: rest) ρ ow r := .mk fun Z s as Q E S lo q => by
  refine wpAny_execs_cons (wpAny_Expr ?_ (interactive_no S.kind) rfl)
  obtain ⟨a, ha, ld, c, go⟩ := S.mutate rp
  refine wpAny_Call_method_lateS rfl (by rw [hs]; rfl) hline (wpAny_Name (ld.load S.kind hcd ?_) hd)
  obtain ⟨vs, nn, il, rl⟩ := Cont.listI c
  refine ⟨"list", "list.append", PySem.F.plainAttrs_list, slot_list_append, rfl, ⟨_, il, rfl⟩, fun b e => by cases e; exact ⟨_, il, rfl⟩, ?_⟩
  rw [hs]
  refine callWith_builtin rfl (evalArgs_plain (spliced_cons ?_))
  have fin : ∀ cv h' tk', LeW F.W.lo s.heap { s with heap := h', toks := tk' } → Rep (F.X Z as) h' cv v → wpAny F.W.M F.A (call (.builtin "list.append") [.ref a, cv]) (fun v s' => match v with | .ref _ => False | _ => wpAny F.W.M F.A (execs rest F.env) Q E s') E { s with heap := h', toks := tk' } := by
    intro cv h' tk' k' rv
    have k := k'.le
    have hlen := rl.length
    refine wpAny_list_append_plain (items := vs.toArray) ⟨nn, k _ _ il⟩ (fun h₂ hp hs₂ => ?_) (by rw [List.size_toArray, sizeLine_eq]; omega)
    obtain ⟨n₂, il₂⟩ := hp
    have kk : KeptBut (fun b => b = a) h' h₂ := fun b o n e => hs₂.extBut b o n e
    have hXa : F.X Z as a := .inr (.inr (.inl ha))
    have c₂ : Cont (F.X Z as) h₂ a (.list (l ++ [v])) := .list (vs := vs ++ [cv]) (n := n₂) (by simpa using il₂) (((rl.mono k).append (.cons rv .nil)).keep fun b o n e => kk b o (fun w => n (w ▸ hXa)) e)
    exact hr.go Z _ as Q E (go h₂ (fun b o n e => kk b o n (k b o e)) c₂) k'.lo fun f h₃ tk₃ as₃ lo₃ ra st => q f h₃ tk₃ as₃ lo₃ ra (((Step.of_le k).trans (.mut ha kk)).trans st)
  rcases he with he | ⟨he, fl⟩
  · exact he _ s.heap S.full s _ E (.refl lo) fun cv h' tk' k rv => spliced_nil (fin cv h' tk' k rv)
  · exact he _ s.heap S.all s _ E (.refl lo) fun cv h' tk' k rv => spliced_nil (fin cv h' tk' k (rv.flat fl))
end
end
section
open PySem PySem.Calls PyProof.Rows
section
variable {F : Fp} {Z : AS} {ρ ρ' ow ow' : List (Str × PV)} {as : List Addr} {h : Heap}

theorem SttA.storeNewC {M : Model} {A : Around} {E : Value → Shared → Prop} {s : Shared} {x : Str} {a Cc : Addr} {v : PV} {Q : Unit → Shared → Prop} (S : SttA F Z ρ ow as h) (le : Le h s.heap) (o : ownB F.names x = true) (er : Erase x ρ ρ') (off : Off x ow)
    (ha : ∀ b, Alive h b → b < a) (c : Cont F.Xc s.heap a v) (sh : v.shal = true) (hC : ¬ Alive h Cc) (hne : a ≠ Cc)
    (q : ∀ h' tk', s.toks ≤ tk' → KeptBut F.Y s.heap h' → (∀ h'', KeptBut (fun b => b = Cc) h' h'' → SttA F Z ρ' ((x, v) :: ow) (a :: as) h'' ∧ KeptBut F.Y h h'') → Q () { s with heap := h', toks := tk' }) : wpAny M A (storeName F.env x (.ref a)) Q E s := by
  obtain ⟨m, f, vs, oa⟩ := S.frame
  have yc : ∀ b, F.Y b → b ≠ Cc := fun b y e => hC (e ▸ S.yalive y)
  refine (f.mono le).store S.kind (S.own o) fun h' tk' ht f' k => q h' tk' ht (fun b o n e => (k b n).trans e) fun h'' kc => ?_
  have kk : ∀ b o, ¬ F.Y b → h.get? b = some o → h''.get? b = some o := fun b o n e => kc b o (fun w => hC (w ▸ ⟨o, e⟩)) ((k b n).trans (le b o e))
  have dY : ¬ F.Y a := fun y => Nat.lt_irrefl _ (ha a (S.yalive y))
  have c' : Cont (fun b => F.Y b ∨ b = Cc) s.heap a v := c.shal sh
  have c3 : Cont (fun b => F.Y b ∨ b = Cc) h'' a v := c'.keep (fun b o n e => kc b o (fun w => n (.inr w)) ((k b (fun y => n (.inl y))).trans e)) fun o e => kc a o hne ((k a dY).trans e)
  exact ⟨S.owned vs oa (f'.keep fun b o y e => kc b o (yc b y) e) kk o er off ha (c3.shal sh) sh, kk⟩

theorem SttA.storeC {M : Model} {A : Around} {E : Value → Shared → Prop} {s : Shared} {x : Str} {cv : Value} {Cc : Addr} {v : PV} {Q : Unit → Shared → Prop} (S : SttA F Z ρ ow as h) (le : Le h s.heap) (o : ownB F.names x = true) (er : Erase x ρ ρ') (off : Off x ow)
    (r : Rep (fun b => F.X Z as b ∨ b = Cc) s.heap cv v) (hC : ¬ Alive h Cc)
    (q : ∀ h' tk', s.toks ≤ tk' → KeptBut F.Y s.heap h' → (∀ h'', KeptBut (fun b => b = Cc) h' h'' → SttA F Z ((x, v) :: ρ') ow as h'' ∧ KeptBut F.Y h h'') → Q () { s with heap := h', toks := tk' }) : wpAny M A (storeName F.env x cv) Q E s := by
  obtain ⟨m, f, vs, oa⟩ := S.frame
  have yc : ∀ b, F.Y b → b ≠ Cc := fun b y e => hC (e ▸ S.yalive y)
  refine (f.mono le).store S.kind (S.own o) fun h' tk' ht f' k => q h' tk' ht (fun b o n e => (k b n).trans e) fun h'' kc => ?_
  have kk : ∀ b o, ¬ F.Y b → h.get? b = some o → h''.get? b = some o := fun b o n e => kc b o (fun w => hC (w ▸ ⟨o, e⟩)) ((k b n).trans (le b o e))
  have r' : Rep (fun b => F.X Z as b ∨ b = Cc) h'' cv v := r.keep fun b o n e => kc b o (fun w => n (.inr w)) ((k b (fun y => n (.inl (.inr (.inl y))))).trans e)
  exact ⟨S.frozen vs oa (f'.keep fun b o y e => kc b o (yc b y) e) kk o er off (r'.set fun b z _ => .inl z), kk⟩
end

theorem swaps_comp {elt : Expr} {gens : List Comprehension} {scope : Scope} {pos px spos : Pos} {x : Str} {env : Env} (hk : env.scope.kind = .function) (hx : env.kindOf x = some .local) (hl : (px.line == pos.line) = true)
    (hn : (scope.names.any fun p => p.1 == x && (p.2 == .local || p.2 == .cell)) = false) : swapsWith (.ListComp elt gens scope pos) (some (.Name x px)) spos.line env = pure true := by
  have hb : env.blockKind = .function := by unfold Env.blockKind; rw [hk]; rfl
  show (pure (env.blockKind == .function && env.kindOf x == some .local && px.line == pos.line && !(scope.names.any fun (n, k) => n == x && (k == .local || k == .cell))) : Sem Bool) = pure true
  have : (scope.names.any fun (n, k) => n == x && (k == .local || k == .cell)) = false := hn
  rw [hb, hx, hl, this]
  rfl
theorem swaps_cell {elt : Expr} {gens : List Comprehension} {scope : Scope} {pos px spos : Pos} {x : Str} {env : Env} (hx : env.kindOf x ≠ some .local) : swapsWith (.ListComp elt gens scope pos) (some (.Name x px)) spos.line env = pure false := by
  show (pure (env.blockKind == .function && env.kindOf x == some .local && px.line == pos.line && !(scope.names.any fun (n, k) => n == x && (k == .local || k == .cell))) : Sem Bool) = pure false
  have : (env.kindOf x == some .local) = false := by simpa using hx
  rw [this]
  simp

section
variable {W : Wd} {A : Around} {n : Nat} {X : AS} {env : Env} {h : Heap} {names : List (Str × NameKind)} {ρ : List (Str × PV)}

theorem comp_stored {elt target iter : Expr} {ifs : List Expr} {scope : Scope} {pos px spos : Pos} {x : Str} {xs : List Str} {rows outs : List (List PV)} {ρ' : List (Str × PV)} {s : Shared} {Q : Flow → Shared → Prop} {E : Value → Shared → Prop}
    (C : Cx W A n X env h names ρ) (k : LeW W.lo h s) (hit : EvIter W A X env h iter target xs rows) (cap : Cap scope.names ρ ρ') (hok : compOk names scope.names xs = true)
    (hlen : outs.length = rows.length) (htot : outs.flatten.length ≤ 100000)
    (body : ∀ (i : Nat) (row out : List PV), rows[i]? = some row → outs[i]? = some out → ∀ X' env' h', Cx W A n X' env' h' (relN names scope.names) (xs.zip row ++ ρ') →
      ∃ b v, out = outOf b v ∧ EvIfs W A env' h' ifs b ∧ (b = true → Ev W A X' env' h' elt v))
    (hkind : scope.kind = .function) (hs : ∀ x, foldedSetIterable iter env x = pure x)
    (hx : env.kindOf x = some .local) (hl : (px.line == pos.line) = true) (hn : (scope.names.any fun p => p.1 == x && (p.2 == .local || p.2 == .cell)) = false)
    (q : ∀ D Cc h' tk', LeW W.lo s.heap { s with heap := h', toks := tk' } → (∀ b, Alive s.heap b → b < D) → ¬ Alive s.heap Cc → D ≠ Cc → (∃ ml, h'.Ns Cc ml) → Cont (fun a => X a ∨ a = Cc) h' D (.list outs.flatten) →
      wpAny W.M A (storeName env x (.ref D)) (fun _ s'' => ∃ m, s''.heap.Ns Cc m ∧ ∀ h'', Heap.SameBut Cc s''.heap h'' → Q .next { s'' with heap := h'' }) E { s with heap := h', toks := tk' }) :
    wpAny W.M A (exec (.Assign [.Name x px] (.ListComp elt [⟨target, iter, ifs, 0⟩] scope pos) spos) env) Q E s := by
  obtain ⟨c1, c2⟩ := compClos C hok
  rw [exec_Assign_Name_used _ _ _ _ (swaps_comp C.kind hx hl hn)]
  refine wpAny_bind (wpAny_standAt (wpAny_bind ?_))
  show wpAny _ A (do let _ ← comprehension (.ListComp elt [⟨target, iter, ifs, 0⟩] scope pos) scope env _ (newList []) false (eval iter env) (some (assign (.Name x px) env))) _ _ s
  refine wpAny_bind (wpAny_mono (wpAny_comprehension_free (use := some (assign (.Name x px) env)) (Q := fun _ s' => Q .next s') rfl hs c1 hkind c2 ?_) (fun _ s' hq => wpAny_pure (wpAny_pure hq)) fun _ _ e => e)
  refine hit s _ E k fun I fp wr Bv St h' tk' k₂' T hB hst hfp hwr => ?_
  have k₂ := k₂'.le
  refine comp_list False (s := s) (s₂ := { s with heap := h', toks := tk' }) (RR := fun acc Cc => compPost W.M A E (some (assign (.Name x px) env)) (fun _ s' => Q .next s') acc Cc) C k.le k₂ k₂'.lo cap hkind hok T rfl hB hst hfp hwr hlen htot (fun i row out hr ho X' env' h' C' => let ⟨b, v, e, hi, hv⟩ := body i row out hr ho X' env' h' C'; ⟨b, v, e, hi, fun q => (hv q).evK⟩) ?_
  rintro D Cc h₃ tk₃ hlo₃ hdc hd hc hns ⟨vs, nn, il, rl, _⟩ le₃
  exact wpAny_assign_Name (q D Cc h₃ tk₃ ⟨le₃, hlo₃⟩ (fun b al => hd b (al.mono k₂)) (fun al => hc (al.mono k₂)) hdc hns (.list (n := nn) (vs := vs) il rl))
end

section
variable {F : Fp} {ρ ρ' ow ow' : List (Str × PV)} {r : R} {rest : List Stmt}

theorem Ns.put {h h' : Heap} {C : Addr} {m : Str → Option Value} (n : h.Ns C m) (k : ∀ o, h.get? C = some o → h'.get? C = some o) : h'.Ns C m := by
  obtain ⟨o, es, ep, ho, r⟩ := n
  exact ⟨o, es, ep, k _ ho, r⟩

/-- what a comprehension's statement needs -/
structure CompS (F : Fp) (ρ : List (Str × PV)) (elt target iter : Expr) (ifs : List Expr) (scope : Scope) (pos px : Pos) (x : Str) (outs : List (List PV)) : Prop where
  go : ∃ (xs : List Str) (rows : List (List PV)) (ρ' : List (Str × PV)), (∀ X h, Cx F.W F.A F.n X F.env h F.names ρ → EvIter F.W F.A X F.env h iter target xs rows) ∧ Cap scope.names ρ ρ' ∧ compOk F.names scope.names xs = true ∧ outs.length = rows.length ∧
    (∀ (i : Nat) (row out : List PV), rows[i]? = some row → outs[i]? = some out → ∀ X' env' h', Cx F.W F.A F.n X' env' h' (relN F.names scope.names) (xs.zip row ++ ρ') → ∃ b v, out = outOf b v ∧ EvIfs F.W F.A env' h' ifs b ∧ (b = true → Ev F.W F.A X' env' h' elt v))
  tot : outs.flatten.length ≤ 100000
  kind : scope.kind = .function
  fold : ∀ x, foldedSetIterable iter F.env x = pure x
  loc : F.names.lookup x = some .local
  line : (px.line == pos.line) = true
  free : (scope.names.any fun p => p.1 == x && (p.2 == .local || p.2 == .cell)) = false

theorem ownB_of {names : List (Str × NameKind)} {x : Str} (h : names.lookup x = some .local) : ownB names x = true := by unfold ownB; rw [h]; rfl

theorem Ex.compO {elt target iter : Expr} {ifs : List Expr} {scope : Scope} {pos px spos : Pos} {x : Str} {outs : List (List PV)} (c : CompS F (ρ ++ ow) elt target iter ifs scope pos px x outs) (sh : (PV.list outs.flatten).shal = true) (er : Erase x ρ ρ') (off : Off x ow)
    (hr : Ex F rest ρ' ((x, .list outs.flatten) :: ow) r) : Ex F (.Assign [.Name x px] (.ListComp elt [⟨target, iter, ifs, 0⟩] scope pos) spos :: rest) ρ ow r := .mk fun Z s as Q E S lo q => by
  obtain ⟨xs, rows, ρ₂, hit, cap, hok, hlen, body⟩ := c.go
  have C := S.all
  refine wpAny_execs_cons (comp_stored C (.refl lo) (hit _ _ C) cap hok hlen c.tot body c.kind c.fold (by unfold Env.kindOf; rw [S.names]; exact c.loc) c.line c.free fun D Cc h' tk' le hd hc hdc hns ct => ?_)
  refine S.storeNewC (s := { s with heap := h', toks := tk' }) le.le (ownB_of c.loc) er off hd (ct.shal sh) sh hc hdc fun h₂ tk₂ ht₂ k₂ fin => ?_
  obtain ⟨ml, hn⟩ := hns
  refine ⟨ml, Ns.put hn fun o e => k₂ Cc o (fun y => hc (S.yalive y)) e, fun h₃ hs₃ => ?_⟩
  obtain ⟨S₃, k₃⟩ := fin h₃ fun b o n e => hs₃.extBut b o n e
  exact hr.go Z _ _ Q E S₃ (Nat.le_trans le.lo ht₂) fun f h₄ tk₄ as₄ lo₄ ra st => q f h₄ tk₄ as₄ lo₄ ra ((Step.new k₃ hd).trans st)

theorem fresh_rep {F : Fp} {Z : AS} {ρ ow : List (Str × PV)} {as : List Addr} {h h' : Heap} {D Cc : Addr} {v : PV} (S : SttA F Z ρ ow as h) (hd : ∀ b, Alive h b → b < D) (hdc : D ≠ Cc) (c : Cont (fun b => F.X Z as b ∨ b = Cc) h' D v) : Rep (fun b => F.X Z as b ∨ b = Cc) h' (.ref D) v :=
  c.rep fun z => by
    rcases z with z | z
    · obtain ⟨b, hb, al⟩ := S.okX.alive D z
      exact absurd (hd b al) (Nat.not_lt.mpr hb)
    · exact hdc z

theorem Ex.compS {elt target iter : Expr} {ifs : List Expr} {scope : Scope} {pos px spos : Pos} {x : Str} {outs : List (List PV)} (c : CompS F (ρ ++ ow) elt target iter ifs scope pos px x outs) (sh : (PV.list outs.flatten).shal = true) (er : Erase x ρ ρ') (off : Off x ow)
    (hr : Ex F rest ((x, .list outs.flatten) :: ρ') ow r) : Ex F (.Assign [.Name x px] (.ListComp elt [⟨target, iter, ifs, 0⟩] scope pos) spos :: rest) ρ ow r := .mk fun Z s as Q E S lo q => by
  obtain ⟨xs, rows, ρ₂, hit, cap, hok, hlen, body⟩ := c.go
  have C := S.all
  refine wpAny_execs_cons (comp_stored C (.refl lo) (hit _ _ C) cap hok hlen c.tot body c.kind c.fold (by unfold Env.kindOf; rw [S.names]; exact c.loc) c.line c.free fun D Cc h' tk' le hd hc hdc hns ct => ?_)
  refine S.storeC (s := { s with heap := h', toks := tk' }) le.le (ownB_of c.loc) er off (fresh_rep S hd hdc (ct.shal sh)) hc fun h₂ tk₂ ht₂ k₂ fin => ?_
  obtain ⟨ml, hn⟩ := hns
  refine ⟨ml, Ns.put hn fun o e => k₂ Cc o (fun y => hc (S.yalive y)) e, fun h₃ hs₃ => ?_⟩
  obtain ⟨S₃, k₃⟩ := fin h₃ fun b o n e => hs₃.extBut b o n e
  exact hr.go Z _ _ Q E S₃ (Nat.le_trans le.lo ht₂) fun f h₄ tk₄ as₄ lo₄ ra st => q f h₄ tk₄ as₄ lo₄ ra ((Step.of_kept k₃).trans st)

theorem Ex.compF {elt target iter : Expr} {ifs : List Expr} {scope : Scope} {pos px spos : Pos} {x : Str} {outs : List (List PV)} (c : CompS F ρ elt target iter ifs scope pos px x outs) (er : Erase x ρ ρ') (off : Off x ow)
    (hr : Ex F rest ((x, .list outs.flatten) :: ρ') ow r) : Ex F (.Assign [.Name x px] (.ListComp elt [⟨target, iter, ifs, 0⟩] scope pos) spos :: rest) ρ ow r := .mk fun Z s as Q E S lo q => by
  obtain ⟨xs, rows, ρ₂, hit, cap, hok, hlen, body⟩ := c.go
  have C := S.full
  refine wpAny_execs_cons (comp_stored C (.refl lo) (hit _ _ C) cap hok hlen c.tot body c.kind c.fold (by unfold Env.kindOf; rw [S.names]; exact c.loc) c.line c.free fun D Cc h' tk' le hd hc hdc hns ct => ?_)
  refine S.storeC (s := { s with heap := h', toks := tk' }) le.le (ownB_of c.loc) er off (fresh_rep S hd hdc ct) hc fun h₂ tk₂ ht₂ k₂ fin => ?_
  obtain ⟨ml, hn⟩ := hns
  refine ⟨ml, Ns.put hn fun o e => k₂ Cc o (fun y => hc (S.yalive y)) e, fun h₃ hs₃ => ?_⟩
  obtain ⟨S₃, k₃⟩ := fin h₃ fun b o n e => hs₃.extBut b o n e
  exact hr.go Z _ _ Q E S₃ (Nat.le_trans le.lo ht₂) fun f h₄ tk₄ as₄ lo₄ ra st => q f h₄ tk₄ as₄ lo₄ ra ((Step.of_kept k₃).trans st)
end
end
section
open PySem PySem.Calls PyProof.Rows
/-- stores of names, one behind the other -/
inductive Stores (M : Model) (A : Around) (env : Env) : List (Value → Sem Unit) → List Str → Prop
  | nil : Stores M A env [] []
  | cons {t : Value → Sem Unit} {x : Str} {ts : List (Value → Sem Unit)} {xs : List Str} : (∀ v (Q : Unit → Shared → Prop) E s, wpAny M A (storeName env x v) Q E s → wpAny M A (t v) Q E s) → Stores M A env ts xs → Stores M A env (t :: ts) (x :: xs)
theorem Stores.go {M : Model} {A : Around} {env : Env} {ts : List (Value → Sem Unit)} {xs : List Str} (st : Stores M A env ts xs) : ∀ {vs : List Value} {Q : Unit → Shared → Prop} {E : Value → Shared → Prop} {s : Shared}, StAll M A env Q E xs vs s → wpAny M A (assignInOrder ts vs) Q E s := by
  induction st with
  | nil => intro vs Q E s q; exact wpAny_pure q
  | cons h _ ih =>
    intro vs Q E s q
    cases vs with
    | nil => exact wpAny_pure q
    | cons v vs => exact wpAny_bind (wpAny_holding (h v _ E s (wpAny_mono q (fun _ s' h' => ih h') fun _ _ e => e)))
theorem assignT_list {prog : Program} {w : World} {A : Around} {E : Value → Shared → Prop} {s : Shared} {env : Env} {elts : List Expr} {x1} {pos : Pos} {t : Addr} {items : Array Value} {Q : Unit → Shared → Prop} (hh : A.handled = none) (ht : s.heap.IsList t items)
    (hn : (assignEach elts env).length = items.size) (hstar : (assignEach elts env).findIdx? (·.1) = none)
    (h : ∀ h', Heap.ExtBut s.heap.objs.size s.heap h' → wpAny (model prog w) A (assignInOrder ((assignEach elts env).map (·.2)) items.toList) Q E { s with heap := h' }) :
    wpAny (model prog w) A (assign (.Tuple elts x1 pos) env (.ref t)) Q E s := by
  rw [PyProof.Rows.assign_Tuple]
  refine wpAny_bind (wpAny_standAt ?_)
  unfold unpack
  rw [hn, hstar]
  exact wpAny_bind (wpAny_holding (W.kun_itemsOf hh ht h))

theorem ext_le {h h' : Heap} (e : Heap.ExtBut h.objs.size h h') : Le h h' := fun a o q => e a o (Nat.ne_of_lt (Heap.lt_size q)) q

noncomputable def starred : Expr → Bool
  | .Starred .. => true
  | _ => false
theorem fm_short {α β : Type} (f : α → Option β) {x : α} (hf : f x = none) : ∀ {l : List α}, x ∈ l → (l.filterMap f).length < l.length
  | a :: l, h => by
    rw [List.filterMap_cons]
    cases h with
    | head =>
      rw [hf]; exact Nat.lt_succ_of_le (List.length_filterMap_le ..)
    | tail _ h =>
      cases f a with
      | none => exact Nat.lt_succ_of_lt (fm_short f hf h)
      | some b => exact Nat.succ_lt_succ (fm_short f hf h)
theorem swap_none {x : Str} {px tp p2 : Pos} {ts vs : List Expr} {k k2 : Nat} {env : Env} (hm : Expr.Name x px ∈ ts) (hx : env.kindOf x ≠ some .local) (hs : vs.any starred = false) :
    swappedStores [.Tuple ts k tp] (.Tuple vs k2 p2) env = pure none := by
  unfold swappedStores
  by_cases hb : (!(ts.length == 2 || ts.length == 3) || vs.length != ts.length || env.blockKind != .function) = true
  · exact if_pos hb
  · refine (if_neg hb).trans ((if_neg (fun q => Bool.false_ne_true (hs.symm.trans q))).trans (if_pos ?_))
    rw [Bool.or_eq_true]
    refine .inl (bne_iff_ne.mpr (Nat.ne_of_lt (fm_short _ ?_ hm)))
    exact if_neg (by rw [beq_false_of_ne hx]; exact Bool.false_ne_true)
theorem swap2 {x y : Str} {px py tp p2 : Pos} {e1 e2 : Expr} {k k2 : Nat} {env : Env} (hk : env.scope.kind = .function) (hx : env.kindOf x = some .local) (hy : env.kindOf y = some .local) (hne : y ≠ x) (hl : (py.line == px.line) = true)
    (h1 : starred e1 = false) (h2 : starred e2 = false) (hf : [e1, e2].all (foldedForSure 8) = false) (hc : [e1, e2].all (constantsAlone 8) = false) :
    swappedStores [.Tuple [.Name x px, .Name y py] k tp] (.Tuple [e1, e2] k2 p2) env = pure (some [x, y]) := by
  have hb : (env.blockKind != .function) = false := by unfold Env.blockKind; rw [hk]; rfl
  have hs : [e1, e2].any starred = false := by show (starred e1 || (starred e2 || false)) = false; rw [h1, h2]; rfl
  have gen : ∀ f : Expr → Option Str, f (.Name x px) = some x → f (.Name y py) = some y → List.filterMap f [.Name x px, .Name y py] = [x, y] := fun f a b => by rw [List.filterMap_cons_some a, List.filterMap_cons_some b]; rfl
  have hd : ([x, y] : List Str).eraseDups = [x, y] := by rw [List.eraseDups_cons, List.filter_cons_of_pos (by rw [beq_false_of_ne hne]; rfl)]; rfl
  unfold swappedStores
  refine (if_neg (fun q => Bool.false_ne_true (hb.symm.trans q))).trans ((if_neg (fun q => Bool.false_ne_true (hs.symm.trans q))).trans ((if_neg ?_).trans ((if_neg (fun q => Bool.false_ne_true (hf.symm.trans q))).trans ((if_neg (fun q => Bool.false_ne_true (hc.symm.trans q))).trans ?_))))
  · rw [gen _ (if_pos (by rw [hx]; exact Bool.and_eq_true_iff.mpr ⟨rfl, beq_self_eq_true _⟩)) (if_pos (by rw [hy]; exact Bool.and_eq_true_iff.mpr ⟨rfl, hl⟩)), hd]
    exact Bool.false_ne_true
  · exact congrArg (fun l => pure (some l)) (gen _ (if_pos (by rw [hx]; exact Bool.and_eq_true_iff.mpr ⟨rfl, beq_self_eq_true _⟩)) (if_pos (by rw [hy]; exact Bool.and_eq_true_iff.mpr ⟨rfl, hl⟩)))
theorem swap_none2 {x y : Str} {px py tp p2 : Pos} {e1 e2 : Expr} {k k2 : Nat} {env : Env} (hx : env.kindOf x ≠ some .local ∨ env.kindOf y ≠ some .local) (h1 : starred e1 = false) (h2 : starred e2 = false) :
    swappedStores [.Tuple [.Name x px, .Name y py] k tp] (.Tuple [e1, e2] k2 p2) env = pure none := by
  have hs : [e1, e2].any starred = false := by show (starred e1 || (starred e2 || false)) = false; rw [h1, h2]; rfl
  exact hx.elim (fun q => swap_none (.head _) q hs) fun q => swap_none (.tail _ (.head _)) q hs
theorem swap_none3 {x y z : Str} {px py pz tp p2 : Pos} {e1 e2 e3 : Expr} {k k2 : Nat} {env : Env} (hx : env.kindOf x ≠ some .local) (h1 : starred e1 = false) (h2 : starred e2 = false) (h3 : starred e3 = false) :
    swappedStores [.Tuple [.Name x px, .Name y py, .Name z pz] k tp] (.Tuple [e1, e2, e3] k2 p2) env = pure none :=
  swap_none (.head _) hx (by show (starred e1 || (starred e2 || (starred e3 || false))) = false; rw [h1, h2, h3]; rfl)

section
variable {F : Fp} {ρ ρ' ρ₁ ow ow' : List (Str × PV)} {r : R} {rest : List Stmt}

/-- a tuple target whose names take a tuple's or a list's items -/
theorem Ex.unpack {elts : List Expr} {k : Nat} {tpos pos : Pos} {e : Expr} {xs : List Str} {row : List PV} (he : E1 F ρ e (.tuple row) ∨ E1 F ρ e (.list row)) (b : Binds xs row ρ ρ') (off : ∀ x ∈ xs, Off x ow) (hr : Ex F rest ρ' ow r)
    (own : ∀ x ∈ xs, ownB F.names x = true) {ts : List (Value → Sem Unit)} (hts : (assignEach elts F.env).map (·.2) = ts) (hst : Stores F.W.M F.A F.env ts xs) (hn : (assignEach elts F.env).length = row.length) (hstar : (assignEach elts F.env).findIdx? (·.1) = none)
    (hw : F.env.scope.kind = .function → F.env.scope.names = F.names → swappedStores [.Tuple elts k tpos] e F.env = pure none) (hs : swapsWithSole [.Tuple elts k tpos] e pos.line F.env = pure false) :
    Ex F (.Assign [.Tuple elts k tpos] e pos :: rest) ρ ow r := .mk fun Z s as Q E S lo q => by
  refine wpAny_execs_cons (PyProof.Rows.Assign_Tuple ?_ hs (hw S.kind S.names))
  have fin : ∀ vs h' tk', F.W.lo ≤ tk' → Le s.heap h' → RepAll (F.X Z as) h' vs row → wpAny F.W.M F.A (assignInOrder ((assignEach elts F.env).map (·.2)) vs) (fun _ s' => wpAny F.W.M F.A (execs rest F.env) Q E s') E { s with heap := h', toks := tk' } := by
    intro vs h' tk' klo k rv
    rw [hts]
    exact hst.go (SttA.stAll b (s := { s with heap := h', toks := tk' }) (S.mono k) rv off own fun h₂ tk₂ ht₂ S₂ k₂ => hr.go Z _ as Q E S₂ (Nat.le_trans klo ht₂) fun f h₃ tk₃ as₃ lo₃ ra st => q f h₃ tk₃ as₃ lo₃ ra (((Step.of_le k).trans (.of_kept k₂)).trans st))
  rcases he with he | he
  · refine he _ s.heap S.full s _ E (.refl lo) fun cv h' tk' k rv => ?_
    obtain ⟨a, rfl, vs, n, na, it, rl⟩ := Rep.tupleI rv
    refine assign_Tuple_tuple S.room.handled ⟨_, it, rfl, n, rfl⟩ (by rw [hn, List.size_toArray, rl.length]) hstar fun h₂ ex => ?_
    exact fin vs h₂ tk' k.lo (k.le.trans (ext_le ex)) (rl.mono (ext_le ex))
  · refine he _ s.heap S.full s _ E (.refl lo) fun cv h' tk' k rv => ?_
    obtain ⟨a, rfl, vs, n, na, il, rl⟩ := Rep.listI rv
    refine assignT_list S.room.handled il.isList (by rw [hn, List.size_toArray, rl.length]) hstar fun h₂ ex => ?_
    exact fin vs h₂ tk' k.lo (k.le.trans (ext_le ex)) (rl.mono (ext_le ex))

theorem st_name {M : Model} {A : Around} {env : Env} {x : Str} {pos : Pos} (v : Value) (Q : Unit → Shared → Prop) (E : Value → Shared → Prop) (s : Shared) (h : wpAny M A (storeName env x v) Q E s) : wpAny M A (assign (.Name x pos) env v) Q E s := PySem.wpAny_assign_Name h

theorem Ex.unpack2 {x y : Str} {px py tpos pos : Pos} {k : Nat} {e : Expr} {a b : PV} (he : E1 F ρ e (.tuple [a, b]) ∨ E1 F ρ e (.list [a, b])) (bd : Binds [x, y] [a, b] ρ ρ') (o1 : Off x ow) (o2 : Off y ow) (hr : Ex F rest ρ' ow r)
    (w1 : ownB F.names x = true := by first | decide +kernel | (dsimp only; decide +kernel)) (w2 : ownB F.names y = true := by first | decide +kernel | (dsimp only; decide +kernel))
    (hw : F.env.scope.kind = .function → F.env.scope.names = F.names → swappedStores [.Tuple [.Name x px, .Name y py] k tpos] e F.env = pure none := by intro _ _; rfl) (hs : swapsWithSole [.Tuple [.Name x px, .Name y py] k tpos] e pos.line F.env = pure false := by rfl) :
    Ex F (.Assign [.Tuple [.Name x px, .Name y py] k tpos] e pos :: rest) ρ ow r :=
  Ex.unpack he bd (fun z hz => by rcases List.mem_cons.mp hz with rfl | hz; exact o1; rcases List.mem_cons.mp hz with rfl | hz; exact o2; cases hz) hr
    (fun z hz => by rcases List.mem_cons.mp hz with rfl | hz; exact w1; rcases List.mem_cons.mp hz with rfl | hz; exact w2; cases hz) (ts := [PySem.assign (.Name x px) F.env, PySem.assign (.Name y py) F.env]) rfl (.cons st_name (.cons st_name .nil)) rfl rfl hw hs
theorem Ex.unpack3 {x y z : Str} {px py pz tpos pos : Pos} {k : Nat} {e : Expr} {a b c : PV} (he : E1 F ρ e (.tuple [a, b, c]) ∨ E1 F ρ e (.list [a, b, c])) (bd : Binds [x, y, z] [a, b, c] ρ ρ') (o1 : Off x ow) (o2 : Off y ow) (o3 : Off z ow) (hr : Ex F rest ρ' ow r)
    (w1 : ownB F.names x = true := by first | decide +kernel | (dsimp only; decide +kernel)) (w2 : ownB F.names y = true := by first | decide +kernel | (dsimp only; decide +kernel)) (w3 : ownB F.names z = true := by first | decide +kernel | (dsimp only; decide +kernel))
    (hw : F.env.scope.kind = .function → F.env.scope.names = F.names → swappedStores [.Tuple [.Name x px, .Name y py, .Name z pz] k tpos] e F.env = pure none := by intro _ _; rfl) (hs : swapsWithSole [.Tuple [.Name x px, .Name y py, .Name z pz] k tpos] e pos.line F.env = pure false := by rfl) :
    Ex F (.Assign [.Tuple [.Name x px, .Name y py, .Name z pz] k tpos] e pos :: rest) ρ ow r :=
  Ex.unpack he bd (fun u hz => by rcases List.mem_cons.mp hz with rfl | hz; exact o1; rcases List.mem_cons.mp hz with rfl | hz; exact o2; rcases List.mem_cons.mp hz with rfl | hz; exact o3; cases hz) hr
    (fun u hz => by rcases List.mem_cons.mp hz with rfl | hz; exact w1; rcases List.mem_cons.mp hz with rfl | hz; exact w2; rcases List.mem_cons.mp hz with rfl | hz; exact w3; cases hz) (ts := [PySem.assign (.Name x px) F.env, PySem.assign (.Name y py) F.env, PySem.assign (.Name z pz) F.env]) rfl (.cons st_name (.cons st_name (.cons st_name .nil))) rfl rfl hw hs

theorem SttA.storeZ {Z : AS} {as : List Addr} {M : Model} {A : Around} {E : Value → Shared → Prop} {s : Shared} {x : Str} {a : Addr} {v : PV} {Q : Unit → Shared → Prop} (S : SttA F (fun b => Z b ∨ b = a) ρ ow as s.heap) (o : ownB F.names x = true) (er : Erase x ρ ρ') (off : Off x ow)
    (ha : ∀ b, Alive F.h₀ b → b < a) (hz : ¬ Z a) (c : Cont F.Xc s.heap a v) (sh : v.shal = true) (q : ∀ h' tk', s.toks ≤ tk' → SttA F Z ρ' ((x, v) :: ow) (a :: as) h' → KeptBut F.Y s.heap h' → Q () { s with heap := h', toks := tk' }) : wpAny M A (storeName F.env x (.ref a)) Q E s := by
  obtain ⟨m, f, vs, oa⟩ := S.frame
  obtain ⟨al, ny, na⟩ := S.zal a (.inr rfl)
  refine f.store S.kind (S.own o) fun h' tk' ht f' k => ?_
  have kk : ∀ b o, ¬ F.Y b → s.heap.get? b = some o → h'.get? b = some o := fun b o n e => (k b n).trans e
  have st : ∀ b, F.X Z (a :: as) b → F.X (fun b => Z b ∨ b = a) as b := fun b q => by
    rcases q with q | q | q | q
    · exact .inl q
    · exact .inr (.inl q)
    · rcases List.mem_cons.mp q with q | q
      · exact .inr (.inr (.inr (.inr q)))
      · exact .inr (.inr (.inl q))
    · exact .inr (.inr (.inr (.inl q)))
  have kx : ∀ b o, ¬ F.X Z (a :: as) b → s.heap.get? b = some o → h'.get? b = some o := fun b o n e => kk b o (fun y => n (.inr (.inl y))) e
  have c3 : Cont F.Y h' a v := (c.shal (X' := F.Y) sh).keep kk fun o e => kk a o ny e
  refine q h' tk' ht ⟨S.room, S.base, S.xalive, S.kind, S.names, S.globals, S.builtins, fun b o e => kk b o (fun y => S.ynew b y ⟨o, e⟩) (S.le b o e), S.ynew, S.yis, S.cells, fun b z => ?_, _, f', fun y u l => ?_, .cons (S.own o) (if_pos rfl) (c3.shal sh) ha ny na ((oa.set fun b q _ => st b q).updd off (fun a y => .inr (.inl y)) kk)⟩ kk
  · obtain ⟨⟨o, e⟩, ny', na'⟩ := S.zal b (.inl z)
    exact ⟨⟨o, kk b o ny' e⟩, ny', fun q => (List.mem_cons.mp q).elim (fun q => hz (q ▸ z)) na'⟩
  · obtain ⟨l', hne⟩ := er.look l
    obtain ⟨ho, cv', e, r'⟩ := vs y u l'
    exact ⟨ho, cv', (if_neg hne : upd m x (.ref a) y = m y).trans e, (r'.set fun b q _ => st b q).keep kx⟩

/-- two new objects that are owned from now on -/
theorem Ex.pairO {x y : Str} {px py tpos pos p2 : Pos} {k k2 : Nat} {e1 e2 : Expr} {v1 v2 : PV} (h1 : EN F (ρ ++ ow) e1 v1) (h2 : EN F (ρ ++ ow) e2 v2) (s1 : v1.shal = true) (s2 : v2.shal = true) (ey : Erase y ρ ρ₁) (ex : Erase x ρ₁ ρ') (oy : Off y ow) (ox : Off x ow) (hne : y ≠ x)
    (hr : Ex F rest ρ' ((x, v1) :: (y, v2) :: ow) r) (lx : F.names.lookup x = some .local := by first | decide +kernel | (dsimp only; decide +kernel)) (ly : F.names.lookup y = some .local := by first | decide +kernel | (dsimp only; decide +kernel)) (hl : (py.line == px.line) = true := by rfl)
    (t1 : starred e1 = false := by rfl) (t2 : starred e2 = false := by rfl) (hf : [e1, e2].all (foldedForSure 8) = false := by rfl) (hc : [e1, e2].all (constantsAlone 8) = false := by rfl) (hst : starEach [e1, e2] F.env = [(false, eval e1 F.env), (false, eval e2 F.env)] := by rfl) :
    Ex F (.Assign [.Tuple [.Name x px, .Name y py] k tpos] (.Tuple [e1, e2] k2 p2) pos :: rest) ρ ow r := .mk fun Z s as Q E S lo q => by
  have kx : F.env.kindOf x = some .local := by unfold Env.kindOf; rw [S.names]; exact lx
  have ky : F.env.kindOf y = some .local := by unfold Env.kindOf; rw [S.names]; exact ly
  refine wpAny_execs_cons (PyProof.Rows.Assign_Tuple_swapped (names := [x, y]) ?_ rfl (swap2 S.kind kx ky hne hl t1 t2 hf hc))
  have C := S.all
  refine wpAny_Tuple_spliced ?_
  rw [hst]
  refine spliced_cons (h1 _ _ C s _ E (.refl lo) fun a1 m1 tk1 k1' b1 c1 => ?_)
  have k1 := k1'.le
  refine spliced_cons (h2 _ _ C { s with heap := m1, toks := tk1 } _ E k1' fun a2 m2 tk2 k2' b2 c2 => ?_)
  have k2 := k2'.le
  refine spliced_nil ⟨by rw [sizeLine_eq]; simp only [List.length_cons, List.length_nil]; omega, ?_⟩
  have hT : IsTup (m2.push { cls := .type "tuple", data := .seq [Value.ref a1, Value.ref a2].toArray }) m2.objs.size #[.ref a1, .ref a2] := ⟨_, Heap.get?_push_size _ rfl, rfl, 0, rfl⟩
  refine PyProof.Rows.unpackItems_tuple (items := #[.ref a1, .ref a2]) S.room.handled hT fun h₃ ex₃ => ?_
  have l3 : Le m2 h₃ := (Le.push _ _).trans (ext_le ex₃)
  have S' := S.mono k1
  show wpAny _ _ (assignInOrder [fun v => bindName F.env y v, fun v => bindName F.env x v] [.ref a2, .ref a1]) _ _ _
  refine Stores.go (xs := [y, x]) (.cons (fun v Q E s h => wpAny_bindName h) (.cons (fun v Q E s h => wpAny_bindName h) .nil)) ?_
  have hz : ¬ Z a1 := fun z => Nat.lt_irrefl _ (b1 a1 (S.zal a1 z).1)
  have S₁ : SttA F (fun b => Z b ∨ b = a1) ρ ow as m1 := S.more k1 fun b z => z.imp id fun (e : b = a1) => ⟨fun al => Nat.lt_irrefl _ (e ▸ b1 b al), e ▸ c1.alive⟩
  refine S₁.storeNew (s := { s with heap := h₃, toks := tk2 }) (k2.trans l3) (ownB_of ly) ey oy b2 ((c2.shal (X' := F.Xc) s2).mono l3) s2 fun h₄ tk₄ ht₄ S₄ k₄ => ?_
  have ny1 : ¬ F.Y a1 := (S₁.zal a1 (.inr rfl)).2.1
  have c1' : Cont F.Xc h₄ a1 v1 := by
    have c1a : Cont F.Y m1 a1 v1 := c1.shal s1
    have c1b : Cont F.Y h₄ a1 v1 := c1a.keep k₄ fun o e => k₄ a1 o ny1 e
    exact c1b.shal s1
  refine SttA.storeZ (s := { s with heap := h₄, toks := tk₄ }) S₄ (ownB_of lx) ex (.cons hne ox) (fun b al => b1 b (al.mono S.le)) hz c1' s1 fun h₅ tk₅ ht₅ S₅ k₅ => ?_
  refine hr.go Z { s with heap := h₅, toks := tk₅ } _ Q E S₅ (Nat.le_trans k2'.lo (Nat.le_trans ht₄ ht₅)) fun f h₆ tk₆ as₆ lo₆ ra st => q f h₆ tk₆ as₆ lo₆ ra (Step.trans ⟨fun b z => ?_, fun b o n e => k₅ b o (fun y => n (.inl y)) (k₄ b o (fun y => n (.inl y)) (k1 b o e))⟩ st)
  rcases List.mem_cons.mp z with z | z
  · exact .inr (.inl fun al => Nat.lt_irrefl _ (z ▸ b1 b al))
  · rcases List.mem_cons.mp z with z | z
    · exact .inr (.inl fun al => Nat.lt_irrefl _ (z ▸ b2 b (al.mono k1)))
    · exact .inl z
end
end
section
open PySem PySem.Calls PyProof.Rows
theorem iadd_int2 {W : Wd} {n : Nat} {a b : Int} : Op2 W n (inplaceOp .Add) (.int a) (.int b) (.int (a + b)) := fun A X s ca cb Q E O ra rb p => by
  obtain ⟨_, rfl⟩ := Rep.intI ra; obtain ⟨_, rfl⟩ := Rep.intI rb; exact PyProof.Rows.iadd_int (p.at1 O.lo (.int _ _))

theorem RepAll.setAt {X : AS} {h : Heap} {cv : Value} {v : PV} (r : Rep X h cv v) {vs : List Value} {l : List PV} (k : Nat) (rl : RepAll X h vs l) : RepAll X h (vs.set k cv) (l.set k v) := by
  refine RepAll.ind (M := fun vs l => ∀ k, RepAll X h (vs.set k cv) (l.set k v)) (fun _ => .nil) (fun a b ih k => ?_) rl k
  cases k with
  | zero => exact .cons r b
  | succ k => exact .cons a (ih k)

theorem setItem_IsL {W : Wd} {A : Around} {E : Value → Shared → Prop} {s : Shared} {Q : Unit → Shared → Prop} {a : Addr} {vs : List Value} {nn k : Nat} {t : Tok} {cv : Value} (il : IsL s.heap a vs.toArray nn) (hk : k < vs.length) (hl : vs.length ≤ 1000)
    (q : ∀ h', KeptBut (fun b => b = a) s.heap h' → IsL h' a (vs.set k cv).toArray nn → Q () { s with heap := h' }) : wpAny W.M A (setItem (.ref a) (.int (k : Nat) t) cv) Q E s := by
  refine PySem.W.ki_setAt (n := nn) (items := vs.toArray) il (by omega) (by omega) (by rw [List.size_toArray]; omega) (q _ (fun b o n e => (Heap.SameBut.update ..).extBut b o n e) ?_)
  have e0 := Heap.get?_update_self (Obj.mapSeq (·.setIfInBounds k cv)) il rfl
  show Heap.get? _ a = _
  have e1 : ((k : Nat) : Int).toNat = k := by omega
  rw [e1, e0]
  simp [Obj.mapSeq]

section
variable {F : Fp} {ρ ρ' ρ₁ ow ow' : List (Str × PV)} {r : R} {rest : List Stmt}

theorem Ex.two {x y : Str} {px py pos : Pos} {e : Expr} {v : PV} (he : E1 F ρ e v) (e1 : Erase x ρ ρ₁) (e2 : Erase y ((x, v) :: ρ₁) ρ') (o1 : Off x ow) (o2 : Off y ow) (hr : Ex F rest ((y, v) :: ρ') ow r) (w1 : ownB F.names x = true := by first | decide +kernel | (dsimp only; decide +kernel)) (w2 : ownB F.names y = true := by first | decide +kernel | (dsimp only; decide +kernel))
    (hw : swappedStores [.Name x px, .Name y py] e F.env = pure none := by rfl) : Ex F (.Assign [.Name x px, .Name y py] e pos :: rest) ρ ow r := .mk fun Z s as Q E S lo q => by
  refine wpAny_execs_cons (wpAny_Assign_two (he _ s.heap S.full s _ E (.refl lo) fun cv h' tk' k rv => PySem.wpAny_assign_Name ?_) rfl hw)
  refine (S.mono k.le).store (s := { s with heap := h', toks := tk' }) w1 e1 o1 rv fun h₂ tk₂ ht₂ S₂ k₂ => PySem.wpAny_assign_Name ?_
  have rv₂ : Rep (F.X Z as) h₂ cv v := rv.keep fun a o n e => k₂ a o (fun y => n (.inr (.inl y))) e
  exact S₂.store (s := { s with heap := h₂, toks := tk₂ }) w2 e2 o2 rv₂ fun h₃ tk₃ ht₃ S₃ k₃ => hr.go _ _ as Q E S₃ (Nat.le_trans k.lo (Nat.le_trans ht₂ ht₃)) fun f h₄ tk₄ as₄ lo₄ ra st => q f h₄ tk₄ as₄ lo₄ ra ((((Step.of_le k.le).trans (.of_kept k₂)).trans (.of_kept k₃)).trans st)

theorem Ex.aug {x : Str} {px pos : Pos} {op : Operator} {e : Expr} {a b v : PV} (hx : Look ρ x a) (he : E1 F ρ e b) (ho : Op2 F.W F.n (inplaceOp op) a b v) (er : Erase x ρ ρ') (off : Off x ow) (hr : Ex F rest ((x, v) :: ρ') ow r) (o : ownB F.names x = true := by first | decide +kernel | (dsimp only; decide +kernel))
    (hc : (x == ("__classdict__" : Str)) = false := by first | decide +kernel | (dsimp only; decide +kernel)) : Ex F (.AugAssign (.Name x px) op e pos :: rest) ρ ow r := .mk fun Z s as Q E S lo q => by
  have C := S.full
  obtain ⟨ca, ld, ra⟩ := C.vars x a hx
  refine wpAny_execs_cons (wpAny_AugAssign_Name (ld.load S.kind hc (he _ _ C s _ E (.refl lo) fun cb h₁ tk₁ k₁ rb => ?_)))
  refine ho F.A (F.X Z as) _ ca cb _ E (C.ok.at k₁) (ra.mono k₁.le) rb fun cv h₂ tk₂ k₂ rv => ?_
  exact (S.mono (k₁.trans k₂).le).store (s := { s with heap := h₂, toks := tk₂ }) o er off rv fun h₃ tk₃ ht₃ S₃ k₃ => hr.go _ _ as Q E S₃ (Nat.le_trans k₂.lo ht₃) fun f h₄ tk₄ as₄ lo₄ ra st => q f h₄ tk₄ as₄ lo₄ ra (((Step.of_le (k₁.trans k₂).le).trans (.of_kept k₃)).trans st)

/-- x[i] op= e for an owned list of values without a footprint -/
theorem Ex.augSub {x : Str} {px tpos pos : Pos} {op : Operator} {i e : Expr} {l : List PV} {k : Nat} {u b v : PV} (hi : E1 F (ρ ++ ow) i (.int (k : Nat))) (he : E1 F (ρ ++ ow) e b) (hu : l[k]? = some u) (ho : Op2 F.W F.n (inplaceOp op) u b v) (fu : u.flat = true) (fb : b.flat = true) (fv : v.flat = true)
    (rp : Repl x (.list l) (.list (l.set k v)) ow ow') (hl : l.length ≤ 1000) (hr : Ex F rest ρ ow' r) (hd : (x == ("__debug__" : Str)) = false := by first | decide +kernel | (dsimp only; decide +kernel)) (hcd : (x == ("__classdict__" : Str)) = false := by first | decide +kernel | (dsimp only; decide +kernel))
    (ha : ∀ ov iv new, augStore i ov iv new = (do holding [new, ov, iv] (setItem ov iv new); release [new, ov, iv] []; pure .next) := by intro _ _ _; rfl) :
    Ex F (.AugAssign (.Subscript (.Name x px) i tpos) op e pos :: rest) ρ ow r := .mk fun Z s as Q E S lo q => by
  obtain ⟨a, ham, ld, c, go⟩ := S.mutate rp
  have hkl : k < l.length := (List.getElem?_eq_some_iff.mp hu).1
  refine wpAny_execs_cons (wpAny_AugAssign_Subscript_any (wpAny_Name (ld.load S.kind hcd ?_) hd) ha)
  obtain ⟨vs, nn, il, rl⟩ := Cont.listI c
  have hlen := rl.length
  obtain ⟨cu, hcu, ru⟩ := rl.get hu
  refine hi _ _ S.all s _ E (.refl lo) fun ci h₁ tk₁ k₁ ri => ?_
  obtain ⟨_, rfl⟩ := Rep.intI ri
  refine wpAny_getItem_list (PySem.IsL.isList (n := nn) (k₁.le _ _ il)) (by omega) (by omega) (by simpa using hcu) ?_
  refine he _ _ S.all { s with heap := h₁, toks := tk₁ } _ E k₁ fun cb h₂ tk₂ k₂ rb => ?_
  have O : OkS F.W F.A F.n F.Xc { s with heap := h₂, toks := tk₂ } := ⟨(S.mono (k₁.trans k₂).le).okC, k₂.lo⟩
  refine ho F.A F.Xc _ cu cb _ E O (ru.flat fu) rb fun cv h₃ tk₃ k₃ rv => ?_
  have k03' := (k₁.trans k₂).trans k₃
  have k03 : Le s.heap h₃ := k03'.le
  refine setItem_IsL (W := F.W) (nn := nn) (vs := vs) (k03 _ _ il) (by omega) (by omega) fun h₄ ks il₄ => ?_
  have hXa : F.X Z as a := .inr (.inr (.inl ham))
  have c₄ : Cont (F.X Z as) h₄ a (.list (l.set k v)) := .list il₄ (RepAll.setAt (rv.flat fv) k ((rl.mono k03).keep fun b o n e => ks b o (fun w => n (w ▸ hXa)) e))
  exact hr.go Z _ as Q E (go h₄ (fun b o n e => ks b o n (k03 b o e)) c₄) k03'.lo fun f h₅ tk₅ as₅ lo₅ ra st => q f h₅ tk₅ as₅ lo₅ ra (((Step.of_le k03).trans (.mut ham ks)).trans st)

/-- a call of setitem(x, i, v): x owned -/
noncomputable def SetF (W : Wd) (n : Nat) (d : DefRec) : Prop :=
  ∀ A X s a o pm code doc b (vs : List Value) (nn k : Nat) (t : Tok) (cv : Value) (Q : Value → Shared → Prop) (E : Value → Shared → Prop), OkS W A n X s → s.heap.get? a = some o → o.data = .func (docDef d.name d.params d.body d.scope pm code doc) → s.heap.CodeRec code d.name →
    IsL s.heap b vs.toArray nn → k < vs.length → vs.length ≤ 1000 → (∀ h' tk', W.lo ≤ tk' → KeptBut (fun c => c = b) s.heap h' → IsL h' b (vs.set k cv).toArray nn → Q .none { s with heap := h', toks := tk' }) → wpAny W.M A (call (.ref a) [.ref b, .int (k : Nat) t, cv]) Q E s

theorem Ex.setcall {f x : Str} {fp px pos spos : Pos} {i e : Expr} {l : List PV} {k : Nat} {v : PV} (d : DefRec) (hi : E1 F (ρ ++ ow) i (.int (k : Nat))) (he : E1 F (ρ ++ ow) e v) (fv : v.flat = true) (hd : d ∈ F.W.ds) (hf : d.name = f) (hn : SetF F.W F.n d)
    (rp : Repl x (.list l) (.list (l.set k v)) ow ow') (hk : k < l.length) (hl : l.length ≤ 1000) (hr : Ex F rest ρ ow' r) (hkf : F.names.lookup f = some .globalImplicit := by first | decide +kernel | (dsimp only; decide +kernel))
    (hs : starEach [.Name x px, i, e] F.env = [(false, eval (.Name x px) F.env), (false, eval i F.env), (false, eval e F.env)] := by rfl)
    (hdf : (f == ("__debug__" : Str)) = false := by first | decide +kernel | (dsimp only; decide +kernel)) (hdx : (x == ("__debug__" : Str)) = false := by first | decide +kernel | (dsimp only; decide +kernel)) (hcd : (x == ("__classdict__" : Str)) = false := by first | decide +kernel | (dsimp only; decide +kernel)) :
    Ex F (.Expr (.Call (.Name f fp) [.Name x px, i, e] [] pos) spos :: rest) ρ ow r := .mk fun Z s as Q E S lo q => by
  obtain ⟨a, ham, ld, c, go⟩ := S.mutate rp
  have O := S.okC
  obtain ⟨fa, o, pm, code, doc, hg, hoo, hdd, hcc⟩ := O.base.fn d hd
  refine wpAny_execs_cons (wpAny_Expr ?_ (interactive_no S.kind) rfl)
  refine wpAny_Call_NameR (Name_function_global S.kind (by unfold Env.kindOf; rw [S.names]; exact hkf) (loadGlobal_global (S.globals ▸ O.base.g) (hf ▸ hg) ?_) hdf)
  rw [hs]
  obtain ⟨vs, nn, il, rl⟩ := Cont.listI c
  have hlen := rl.length
  refine callWith_function (o := o) (fd := docDef d.name d.params d.body d.scope pm code doc) (evalArgs_plain (spliced_cons (wpAny_Name (ld.load S.kind hcd ?_) hdx)))
  refine spliced_cons (hi _ _ S.all s _ E (.refl lo) fun ci h₁ tk₁ k₁ ri => ?_)
  obtain ⟨_, rfl⟩ := Rep.intI ri
  refine spliced_cons (he _ _ S.all { s with heap := h₁, toks := tk₁ } _ E k₁ fun cv h₂ tk₂ k₂ rv => spliced_nil ?_)
  have k02' := k₁.trans k₂
  have k02 : Le s.heap h₂ := k02'.le
  refine ⟨⟨k02 _ _ hoo, hdd⟩, hn F.A F.Xc { s with heap := h₂, toks := tk₂ } fa o pm code doc a vs nn k _ cv _ E (O.at k02') (k02 _ _ hoo) hdd (hcc.keeps k02) (k02 _ _ il) (by omega) (by omega) fun h₄ tk₄ lo₄ ks il₄ => ?_⟩
  have hXa : F.X Z as a := .inr (.inr (.inl ham))
  have c₄ : Cont (F.X Z as) h₄ a (.list (l.set k v)) := .list il₄ (RepAll.setAt (rv.flat fv) k ((rl.mono k02).keep fun b o n e => ks b o (fun w => n (w ▸ hXa)) e))
  exact hr.go Z { s with heap := h₄, toks := tk₄ } as Q E (go h₄ (fun b o n e => ks b o n (k02 b o e)) c₄) lo₄ fun f h₅ tk₅ as₅ lo₅ ra st => q f h₅ tk₅ as₅ lo₅ ra (((Step.of_le k02).trans (.mut ham ks)).trans st)
end
end
section
open PySem PySem.Calls PyProof.Rows
/-- a value's truth -/
noncomputable def Truth (W : Wd) (n : Nat) (v : PV) (b : Bool) : Prop :=
  ∀ A X s cv (Q : Bool → Shared → Prop) (E : Value → Shared → Prop), OkS W A n X s → Rep X s.heap cv v → (∀ tk', W.lo ≤ tk' → Q b { s with toks := tk' }) → wpAny W.M A (truthy cv) Q E s

section
variable {W : Wd} {n : Nat}
theorem Truth.int {i : Int} : Truth W n (.int i) (i != 0) := fun A X s cv Q E O r q => by
  obtain ⟨_, rfl⟩ := Rep.intI r; exact PyProof.Rows.truthy_int (q s.toks O.lo)
theorem Truth.bool {b : Bool} : Truth W n (.bool b) b := fun A X s cv Q E O r q => by
  obtain rfl := Rep.boolI r; exact wpAny_truthy_bool (q s.toks O.lo)
theorem Truth.str {x : Str} (hx : x.length < 100000000) : Truth W n (.str x) ((x.length : Int) != 0) := fun A X s cv Q E O r q => by
  obtain ⟨_, rfl⟩ := Rep.strI r; exact PySem.P.truthy_str (by omega) (q _ (Nat.le_add_right_of_le (Nat.le_add_right_of_le O.lo)))

theorem Op2.eq_bool {a b : Bool} : Op2 W n (compareOp .Eq) (.bool a) (.bool b) (.bool (a == b)) := fun A X s ca cb Q E O ra rb p => by
  obtain rfl := Rep.boolI ra; obtain rfl := Rep.boolI rb; exact PyProof.Rows.eq_bool (p.here O.lo (.bool _))
theorem Op2.is_bool {a b : Bool} : Op2 W n (compareOp .Is) (.bool a) (.bool b) (.bool (a == b)) := fun A X s ca cb Q E O ra rb p => by
  obtain rfl := Rep.boolI ra; obtain rfl := Rep.boolI rb
  have e : (Value.bool a == Value.bool b) = (a == b) := by cases a <;> cases b <;> rfl
  exact wpAny_bind (wpAny_isSame_plain (by cases a <;> cases b <;> rfl) (wpAny_pure (p.here O.lo (by rw [e]; exact .bool _))))
theorem Op2.isnot_bool {a b : Bool} : Op2 W n (compareOp .IsNot) (.bool a) (.bool b) (.bool (a != b)) := fun A X s ca cb Q E O ra rb p => by
  obtain rfl := Rep.boolI ra; obtain rfl := Rep.boolI rb
  have e : (Value.bool a == Value.bool b) = (a == b) := by cases a <;> cases b <;> rfl
  exact wpAny_bind (wpAny_isSame_plain (by cases a <;> cases b <;> rfl) (wpAny_pure (p.here O.lo (by rw [e]; exact .bool _))))
theorem Op2.ge_int {a b : Int} : Op2 W n (compareOp .GtE) (.int a) (.int b) (.bool (decide (b ≤ a))) := fun A X s ca cb Q E O ra rb p => by
  obtain ⟨_, rfl⟩ := Rep.intI ra; obtain ⟨_, rfl⟩ := Rep.intI rb; exact PyProof.Rows.ge_int (p.here O.lo (.bool _))
theorem Op2.eq_str {a b : Str} : Op2 W n (compareOp .Eq) (.str a) (.str b) (.bool (a == b)) := fun A X s ca cb Q E O ra rb p => by
  obtain ⟨_, rfl⟩ := Rep.strI ra; obtain ⟨_, rfl⟩ := Rep.strI rb; exact PyProof.Rows.eq_str (p.here O.lo (.bool _))
theorem Op2.ne_str {a b : Str} : Op2 W n (compareOp .NotEq) (.str a) (.str b) (.bool (a != b)) := fun A X s ca cb Q E O ra rb p => by
  obtain ⟨_, rfl⟩ := Rep.strI ra; obtain ⟨_, rfl⟩ := Rep.strI rb; exact PyProof.Rows.ne_str (p.here O.lo (.bool _))
theorem Op2.add_str {a b : Str} (h : a.length + b.length ≤ 10000000) : Op2 W n (binaryOp .Add) (.str a) (.str b) (.str (a ++ b)) := fun A X s ca cb Q E O ra rb p => by
  obtain ⟨_, rfl⟩ := Rep.strI ra; obtain ⟨_, rfl⟩ := Rep.strI rb
  refine wpAny_toks (PyProof.Rows.add_str (fun t' tk => fun hle => p.at (Nat.le_trans O.lo hle) (.str _ _)) (by rw [sizeLine_eq]; omega))
theorem Op1.neg {a : Int} : Op1 W n (unaryOp .USub) (.int a) (.int (-a)) := fun A X s ca Q E O ra p => by
  obtain ⟨_, rfl⟩ := Rep.intI ra; exact PyProof.Rows.neg_int (p.at1 O.lo (.int _ _))
end

section
variable {W : Wd} {A : Around} {n : Nat} {X : AS} {env : Env} {h : Heap} {names : List (Str × NameKind)} {ρ : List (Str × PV)}

theorem Ev.una (C : Cx W A n X env h names ρ) {op : UnaryOp} {e : Expr} {pos : Pos} {a v : PV} (he : Ev W A X env h e a) (ho : Op1 W n (unaryOp op) a v) : Ev W A X env h (.UnaryOp op e pos) v := fun s Q E k p =>
  UnaryOp_ (he s _ E k fun ca h₁ tk₁ k₁ ra => ho A X _ ca Q E (C.ok.at (k.trans k₁)) ra (p.le k₁))
theorem Op1.not {v : PV} {b : Bool} (t : Truth W n v b) : Op1 W n (unaryOp .Not) v (.bool (!b)) := fun A X s ca Q E O ra p =>
  not_of (t A X s ca _ E O ra fun tk' lo => p.at lo (.bool _))

theorem EvB.val (C : Cx W A n X env h names ρ) {e : Expr} {v : PV} {b : Bool} (he : Ev W A X env h e v) (t : Truth W n v b)
    (hp : ∀ whole, PySem.isTrue e env whole = (do let v ← whole; standAt e.pos; holding [v] (truthy v)) := by intro _; rfl) : EvB W A env h e b := fun s Q E k q =>
  isTrue_plain (he s _ E k fun cv h' tk' k' r => t A X _ cv Q E (C.ok.at (k.trans k')) r fun tk'' lo => q h' tk'' ⟨k'.le, lo⟩) (hp _)
theorem EvB.not {e : Expr} {pos : Pos} {b : Bool} (he : EvB W A env h e b) : EvB W A env h (.UnaryOp .Not e pos) (!b) := fun s Q E k q => isTrue_not (he s _ E k fun h' tk' k' => q h' tk' k')
theorem EvB.andNil {pos : Pos} : EvB W A env h (.BoolOp .And [] pos) true := fun s Q E k q => isTrue_and_nil (q s.heap s.toks (.refl k.lo))
theorem EvB.orNil {pos : Pos} : EvB W A env h (.BoolOp .Or [] pos) false := fun s Q E k q => isTrue_or_nil (q s.heap s.toks (.refl k.lo))
theorem EvB.and {e : Expr} {r : List Expr} {pos : Pos} {a b : Bool} (he : EvB W A env h e a) (hr : a = true → EvB W A env h (.BoolOp .And r pos) b) : EvB W A env h (.BoolOp .And (e :: r) pos) (a && b) := fun s Q E k q => by
  refine isTrue_and (he s _ E k fun h' tk' k' => ?_)
  cases a with
  | true => exact hr rfl _ Q E (k.trans k') fun h₂ tk₂ k₂ => q h₂ tk₂ (k'.trans k₂)
  | false => exact q h' tk' k'
theorem EvB.or {e : Expr} {r : List Expr} {pos : Pos} {a b : Bool} (he : EvB W A env h e a) (hr : a = false → EvB W A env h (.BoolOp .Or r pos) b) : EvB W A env h (.BoolOp .Or (e :: r) pos) (a || b) := fun s Q E k q => by
  refine isTrue_or (he s _ E k fun h' tk' k' => ?_)
  cases a with
  | true => exact q h' tk' k'
  | false => exact hr rfl _ Q E (k.trans k') fun h₂ tk₂ k₂ => q h₂ tk₂ (k'.trans k₂)
theorem EvB.cast {e : Expr} {a b : Bool} (x : EvB W A env h e a) (q : a = b) : EvB W A env h e b := q ▸ x

theorem Ev.weaken {e : Expr} {v v' : PV} (he : Ev W A X env h e v) (hw : ∀ g cv, Rep X g cv v → Rep X g cv v') : Ev W A X env h e v' := fun s Q E k p => he s Q E k fun cv h' tk' k' r => p cv h' tk' k' (hw _ _ r)

/-- a method of a value, called -/
noncomputable def Meth (T : String) (name : Str) (id : String) : Prop := PlainAttrs T ∧ Slot T name id ∧ typeOf (.builtin id) = pure (.type "method_descriptor")
noncomputable def IsOf (T : String) (v : PV) : Prop := ∀ X (s : Shared) cv, Rep X s.heap cv v → s.TypeIs cv T ∧ ∀ a, cv = .ref a → ∃ ob, s.heap.get? a = some ob ∧ ob.dict = none
theorem IsOf.str {x : Str} : IsOf "str" (.str x) := fun X s cv r => by cases r; exact ⟨typeIs_str _ _ _, fun a e => nomatch e⟩
theorem IsOf.list {l : List PV} : IsOf "list" (.list l) := fun X s cv r => by cases r with | list _ il _ => exact ⟨⟨_, il, rfl⟩, fun a e => by cases e; exact ⟨_, il, rfl⟩⟩

theorem meth_core (C : Cx W A n X env h names ρ) {o : Expr} {name : Str} {apos pos : Pos} {args : List Expr} {vs : List PV} {ov v : PV} {T id : String} (ho : Ev W A X env h o ov)
    (ha : ∀ (s : Shared) (Q : Args → Shared → Prop) (E : Value → Shared → Prop), LeW W.lo h s → (∀ cvs h' tk', LeW W.lo s.heap { s with heap := h', toks := tk' } → RepAll X h' cvs vs → Q ⟨cvs, []⟩ { s with heap := h', toks := tk' }) → wpAny W.M A (evalArgs (.builtin id) true (backTo pos (starEach args env)) []) Q E s)
    (hop : Op W n (fun cvs => call (.builtin id) cvs) (ov :: vs) v)
    (hm : Meth T name id) (hT : IsOf T ov) (hbase : attributeBase o name env (eval o env) = eval o env)
    (hst : (starEach args env).any (·.1) = false) (hlen : args.length < 20) (hline : (apos.endLine == pos.line) = true) : Ev W A X env h (.Call (.Attribute o name apos) args [] pos) v := fun s Q E k p => by
  have hst' := any_star _ env pos hst
  have hall : ((backTo pos (starEach args env)).all (fun x => !x.1) && (backToKw pos (keywordEach [] env)).all (fun x => x.1.isSome) && decide (args.length + ([] : List Keyword).length + (if ([] : List Keyword).isEmpty then 0 else 1) < 30)) = true := by
    have e1 : (backTo pos (starEach args env)).all (fun x => !x.1) = true := by
      rw [List.all_eq_true]
      intro x hx
      have := List.any_eq_false.mp hst' x hx
      simpa using this
    have e2 : (backToKw pos (keywordEach [] env)).all (fun x => x.1.isSome) = true := rfl
    rw [e1, e2]
    simp only [Bool.true_and, List.length_nil, List.isEmpty_nil, if_true, decide_eq_true_eq]
    omega
  refine wpAny_Call_method_lateS hbase hall hline (ho s _ E k fun co h₁ tk₁ k₁ ro => ?_)
  obtain ⟨pa, slot, ty⟩ := hm
  obtain ⟨t1, t2⟩ := hT X { s with heap := h₁, toks := tk₁ } co ro
  refine ⟨T, id, pa, slot, ty, t1, t2, ?_⟩
  refine callWith_builtin hst' (ha _ _ E (k.trans k₁) fun cvs h₂ tk₂ k₂ rr => ?_)
  exact hop A X _ (co :: cvs) Q E (C.ok.at ((k.trans k₁).trans k₂)) (.cons (ro.mono k₂.le) rr) (p.le (k₁.trans k₂))

theorem Ev.meth0 (C : Cx W A n X env h names ρ) {o : Expr} {name : Str} {apos pos : Pos} {ov v : PV} {T id : String} (ho : Ev W A X env h o ov) (hop : Op W n (fun cvs => call (.builtin id) cvs) [ov] v)
    (hm : Meth T name id) (hT : IsOf T ov) (hbase : attributeBase o name env (eval o env) = eval o env := by rfl) (hline : (apos.endLine == pos.line) = true := by rfl) : Ev W A X env h (.Call (.Attribute o name apos) [] [] pos) v :=
  meth_core C ho (fun s Q E k q => PySem.evalArgs_none (q [] s.heap s.toks (.refl k.lo) .nil)) hop hm hT hbase rfl (by simp) hline

theorem Ev.meth (C : Cx W A n X env h names ρ) {o e : Expr} {name : Str} {apos pos : Pos} {r : List Expr} {vs : List PV} {ov v : PV} {T id : String} (ho : Ev W A X env h o ov) (ha : EvArgs W A X env h (e :: r) vs) (hop : Op W n (fun cvs => call (.builtin id) cvs) (ov :: vs) v)
    (hm : Meth T name id) (hT : IsOf T ov) (hbase : attributeBase o name env (eval o env) = eval o env := by rfl) (hs : starEach (e :: r) env = (false, eval e env) :: starEach r env := by rfl)
    (hst : (starEach (e :: r) env).any (·.1) = false := by rfl) (hlen : (e :: r).length < 20 := by simp) (hline : (apos.endLine == pos.line) = true := by rfl) : Ev W A X env h (.Call (.Attribute o name apos) (e :: r) [] pos) v :=
  meth_core C ho (fun s Q E k q => by
    have ha' := ha s
    rw [hs] at ha' ⊢
    exact evalArgs_plain (ha' _ E pos k q)) hop hm hT hbase hst hlen hline
end
end
section
open PySem PySem.Calls PyProof.Rows
noncomputable def fns : List DefRec := recsOf PySem.Challenge.pw_wv0013_01
noncomputable def fn0 : DefRec := ⟨"", { posonlyargs := [], args := [], vararg := none, kwonlyargs := [], kw_defaults := [], kwarg := none, defaults := [] }, [], { kind := .function, names := [], isGenerator := false, isCoroutine := false, more := [] }, ⟨0, 0, 0, 0⟩⟩
noncomputable def fn (i : Nat) : DefRec := (fns.drop i).headD fn0
theorem fns_len : fns.length = 29 := by decide +kernel
theorem fn_mem {i : Nat} (h : i < 29) : fn i ∈ fns := by
  have hl := fns_len
  unfold fn
  cases e : fns.drop i with
  | nil => rw [List.drop_eq_nil_iff] at e; omega
  | cons a r => exact List.mem_of_mem_drop (i := i) (by rw [e]; exact List.mem_cons_self)

set_option maxRecDepth 100000
noncomputable def ns28 : List (Str × NameKind) :=
  ([("script", .local), ("numbers", .cell), ("heard", .cell), ("wish", .cell), ("rows", .cell), ("due", .cell), ("counts", .cell), ("names", .cell), ("told", .local), ("ways", .cell), ("written", .local), ("items", .local), ("said", .cell), ("read", .local), ("table", .local), ("order", .local), ("drawn", .local), ("made", .cell), ("apart", .cell), ("signs", .local)] : List (Str × NameKind)) ++ ([("others", .local), ("stairs", .local), ("quiet", .local), ("pressed", .cell), ("tried", .local), ("silent", .local), ("odd", .local), ("hues", .cell), ("shares", .cell), ("levels", .cell), ("times", .cell), ("grey", .cell), ("kept", .cell), ("lights", .local), ("_law_numbers", .globalImplicit), ("_law_net", .globalImplicit), ("range", .globalImplicit), ("_law_header", .globalImplicit), ("_law_lists", .globalImplicit), ("parse_http_list", .globalImplicit)] : List (Str × NameKind)) ++ ([("parse_keqv_list", .globalImplicit), ("list", .globalImplicit), ("_law_stranger", .globalImplicit), ("_law_read", .globalImplicit), ("_law_made", .globalImplicit), ("sum", .globalImplicit), ("neg", .globalImplicit), ("enumerate", .globalImplicit), ("_law_stairs", .globalImplicit), ("_law_reduced", .globalImplicit), ("sorted", .globalImplicit), ("and_", .globalImplicit), ("rshift", .globalImplicit), ("not_", .globalImplicit), ("_law_ways", .globalImplicit)] : List (Str × NameKind))
noncomputable def nameList : List (Str × List (Str × NameKind)) := [
  ("not_", [("a", .local)]),
  ("truth", [("a", .local)]),
  ("add", [("a", .local), ("b", .local)]),
  ("and_", [("a", .local), ("b", .local)]),
  ("lshift", [("a", .local), ("b", .local)]),
  ("neg", [("a", .local)]),
  ("or_", [("a", .local), ("b", .local)]),
  ("rshift", [("a", .local), ("b", .local)]),
  ("truediv", [("a", .local), ("b", .local)]),
  ("xor", [("a", .local), ("b", .local)]),
  ("indexOf", [("a", .local), ("b", .local), ("i", .local), ("j", .local), ("enumerate", .globalImplicit), ("ValueError", .globalImplicit)]),
  ("setitem", [("a", .local), ("b", .local), ("c", .local)]),
  ("rgb_to_hsv", [("r", .local), ("g", .local), ("b", .local), ("maxc", .local), ("minc", .local), ("rangec", .local), ("v", .local), ("s", .local), ("rc", .local), ("gc", .local), ("bc", .local), ("h", .local), ("max", .globalImplicit), ("min", .globalImplicit)]),
  ("hsv_to_rgb", [("h", .local), ("s", .local), ("v", .local), ("i", .local), ("f", .local), ("p", .local), ("q", .local), ("t", .local), ("int", .globalImplicit)]),
  ("Int2AP", [("num", .local), ("val", .local), ("AP", .local), ("mod", .local), ("int", .globalImplicit), ("abs", .globalImplicit), ("divmod", .globalImplicit)]),
  ("parse_keqv_list", [("l", .local), ("parsed", .local), ("elt", .local), ("k", .local), ("v", .local)]),
  ("parse_http_list", [("s", .local), ("res", .local), ("part", .local), ("escape", .local), ("quote", .local), ("cur", .local)]),
  ("_law_numbers", [("script", .local), ("numbers", .local), ("place", .local), ("number", .local), ("enumerate", .globalImplicit)]),
  ("_law_net", [("roads", .local), ("heard", .cell), ("rows", .local), ("high", .local), ("low", .local), ("road", .local), ("range", .globalImplicit)]),
  ("_law_lists", [("rows", .cell), ("tells", .cell), ("lists", .local), ("one", .cell), ("tellers", .cell), ("range", .globalImplicit)]),
  ("_law_header", [("names", .cell), ("lists", .local), ("ways", .cell), ("lamp", .local), ("written", .local), ("items", .local), ("said", .local), ("row", .local), ("bare", .local), ("held", .local), ("range", .globalImplicit), ("len", .globalImplicit), ("min", .globalImplicit)]),
  ("_law_read", [("table", .local), ("names", .local), ("rows", .local), ("name", .local), ("one", .local), ("call", .local), ("other", .local), ("indexOf", .globalImplicit), ("parse_http_list", .globalImplicit), ("setitem", .globalImplicit), ("or_", .globalImplicit), ("lshift", .globalImplicit)]),
  ("_law_stranger", [("names", .local), ("error", .local), ("indexOf", .globalImplicit), ("ValueError", .globalImplicit), ("str", .globalImplicit)]),
  ("_law_reduced", [("row", .local), ("stairs", .local), ("bit", .local), ("base", .local), ("truth", .globalImplicit), ("and_", .globalImplicit), ("xor", .globalImplicit)]),
  ("_law_stairs", [("rows", .local), ("stairs", .local), ("quiet", .local), ("lamp", .local), ("row", .local), ("low", .local), ("range", .globalImplicit), ("_law_reduced", .globalImplicit), ("or_", .globalImplicit), ("lshift", .globalImplicit), ("and_", .globalImplicit), ("not_", .globalImplicit), ("rshift", .globalImplicit), ("neg", .globalImplicit)]),
  ("_law_made", [("rows", .local), ("made", .local), ("row", .cell)]),
  ("_law_ways", [("rows", .cell), ("ways", .cell), ("lamp", .cell), ("rest", .cell), ("pairs", .local), ("range", .globalImplicit), ("sum", .globalImplicit)]),
  ("_law_mixed", [("hue", .local), ("share", .local), ("level", .local), ("pressed", .local), ("first", .local), ("last", .local), ("hsv_to_rgb", .globalImplicit), ("truediv", .globalImplicit), ("rgb_to_hsv", .globalImplicit), ("add", .globalImplicit)]),
  ("law", ns28)
  ]
theorem all_names : fns.map (fun d => (d.name, d.scope.names)) = nameList := by kernel_rfl
theorem all_kinds : fns.all (fun d => (d.scope.kind == .function) && !d.scope.isGenerator && !d.scope.isCoroutine) = true := by decide +kernel
theorem fn_fact (i : Nat) : ((fn i).name, (fn i).scope.names) = (nameList.drop i).headD (fn0.name, fn0.scope.names) := by
  rw [← all_names, ← List.map_drop]
  unfold fn
  cases fns.drop i <;> rfl
theorem ScOk.of {i : Nat} {nms : List (Str × NameKind)} (hi : i < 29) (h : (fn i).scope.names = nms) : ScOk (fn i) nms := by
  have := List.all_eq_true.mp all_kinds _ (fn_mem hi)
  simp only [Bool.and_eq_true, Bool.not_eq_true'] at this
  obtain ⟨⟨a, b⟩, c⟩ := this
  exact ⟨⟨by simpa using a, b, c⟩, h⟩
theorem fn_names (i : Nat) : (fn i).scope.names = ((nameList.drop i).headD (fn0.name, fn0.scope.names)).2 := congrArg Prod.snd (fn_fact i)
theorem fn_id (i : Nat) : (fn i).name = ((nameList.drop i).headD (fn0.name, fn0.scope.names)).1 := congrArg Prod.fst (fn_fact i)
theorem sc0 : ScOk (fn 0) [("a", .local)] := ScOk.of (by decide) ((fn_names 0).trans rfl)
theorem id0 : (fn 0).name = "not_" := (fn_id 0).trans rfl
theorem sc1 : ScOk (fn 1) [("a", .local)] := ScOk.of (by decide) ((fn_names 1).trans rfl)
theorem id1 : (fn 1).name = "truth" := (fn_id 1).trans rfl
theorem sc2 : ScOk (fn 2) [("a", .local), ("b", .local)] := ScOk.of (by decide) ((fn_names 2).trans rfl)
theorem id2 : (fn 2).name = "add" := (fn_id 2).trans rfl
theorem sc3 : ScOk (fn 3) [("a", .local), ("b", .local)] := ScOk.of (by decide) ((fn_names 3).trans rfl)
theorem id3 : (fn 3).name = "and_" := (fn_id 3).trans rfl
theorem sc4 : ScOk (fn 4) [("a", .local), ("b", .local)] := ScOk.of (by decide) ((fn_names 4).trans rfl)
theorem id4 : (fn 4).name = "lshift" := (fn_id 4).trans rfl
theorem sc5 : ScOk (fn 5) [("a", .local)] := ScOk.of (by decide) ((fn_names 5).trans rfl)
theorem id5 : (fn 5).name = "neg" := (fn_id 5).trans rfl
theorem sc6 : ScOk (fn 6) [("a", .local), ("b", .local)] := ScOk.of (by decide) ((fn_names 6).trans rfl)
theorem id6 : (fn 6).name = "or_" := (fn_id 6).trans rfl
theorem sc7 : ScOk (fn 7) [("a", .local), ("b", .local)] := ScOk.of (by decide) ((fn_names 7).trans rfl)
theorem id7 : (fn 7).name = "rshift" := (fn_id 7).trans rfl
theorem sc8 : ScOk (fn 8) [("a", .local), ("b", .local)] := ScOk.of (by decide) ((fn_names 8).trans rfl)
theorem id8 : (fn 8).name = "truediv" := (fn_id 8).trans rfl
theorem sc9 : ScOk (fn 9) [("a", .local), ("b", .local)] := ScOk.of (by decide) ((fn_names 9).trans rfl)
theorem id9 : (fn 9).name = "xor" := (fn_id 9).trans rfl
theorem sc10 : ScOk (fn 10) [("a", .local), ("b", .local), ("i", .local), ("j", .local), ("enumerate", .globalImplicit), ("ValueError", .globalImplicit)] := ScOk.of (by decide) ((fn_names 10).trans rfl)
theorem id10 : (fn 10).name = "indexOf" := (fn_id 10).trans rfl
theorem sc11 : ScOk (fn 11) [("a", .local), ("b", .local), ("c", .local)] := ScOk.of (by decide) ((fn_names 11).trans rfl)
theorem id11 : (fn 11).name = "setitem" := (fn_id 11).trans rfl
theorem sc12 : ScOk (fn 12) [("r", .local), ("g", .local), ("b", .local), ("maxc", .local), ("minc", .local), ("rangec", .local), ("v", .local), ("s", .local), ("rc", .local), ("gc", .local), ("bc", .local), ("h", .local), ("max", .globalImplicit), ("min", .globalImplicit)] := ScOk.of (by decide) ((fn_names 12).trans rfl)
theorem id12 : (fn 12).name = "rgb_to_hsv" := (fn_id 12).trans rfl
theorem sc13 : ScOk (fn 13) [("h", .local), ("s", .local), ("v", .local), ("i", .local), ("f", .local), ("p", .local), ("q", .local), ("t", .local), ("int", .globalImplicit)] := ScOk.of (by decide) ((fn_names 13).trans rfl)
theorem id13 : (fn 13).name = "hsv_to_rgb" := (fn_id 13).trans rfl
theorem sc14 : ScOk (fn 14) [("num", .local), ("val", .local), ("AP", .local), ("mod", .local), ("int", .globalImplicit), ("abs", .globalImplicit), ("divmod", .globalImplicit)] := ScOk.of (by decide) ((fn_names 14).trans rfl)
theorem id14 : (fn 14).name = "Int2AP" := (fn_id 14).trans rfl
theorem sc15 : ScOk (fn 15) [("l", .local), ("parsed", .local), ("elt", .local), ("k", .local), ("v", .local)] := ScOk.of (by decide) ((fn_names 15).trans rfl)
theorem id15 : (fn 15).name = "parse_keqv_list" := (fn_id 15).trans rfl
theorem sc16 : ScOk (fn 16) [("s", .local), ("res", .local), ("part", .local), ("escape", .local), ("quote", .local), ("cur", .local)] := ScOk.of (by decide) ((fn_names 16).trans rfl)
theorem id16 : (fn 16).name = "parse_http_list" := (fn_id 16).trans rfl
theorem sc17 : ScOk (fn 17) [("script", .local), ("numbers", .local), ("place", .local), ("number", .local), ("enumerate", .globalImplicit)] := ScOk.of (by decide) ((fn_names 17).trans rfl)
theorem id17 : (fn 17).name = "_law_numbers" := (fn_id 17).trans rfl
theorem sc18 : ScOk (fn 18) [("roads", .local), ("heard", .cell), ("rows", .local), ("high", .local), ("low", .local), ("road", .local), ("range", .globalImplicit)] := ScOk.of (by decide) ((fn_names 18).trans rfl)
theorem id18 : (fn 18).name = "_law_net" := (fn_id 18).trans rfl
theorem sc19 : ScOk (fn 19) [("rows", .cell), ("tells", .cell), ("lists", .local), ("one", .cell), ("tellers", .cell), ("range", .globalImplicit)] := ScOk.of (by decide) ((fn_names 19).trans rfl)
theorem id19 : (fn 19).name = "_law_lists" := (fn_id 19).trans rfl
theorem sc20 : ScOk (fn 20) [("names", .cell), ("lists", .local), ("ways", .cell), ("lamp", .local), ("written", .local), ("items", .local), ("said", .local), ("row", .local), ("bare", .local), ("held", .local), ("range", .globalImplicit), ("len", .globalImplicit), ("min", .globalImplicit)] := ScOk.of (by decide) ((fn_names 20).trans rfl)
theorem id20 : (fn 20).name = "_law_header" := (fn_id 20).trans rfl
theorem sc21 : ScOk (fn 21) [("table", .local), ("names", .local), ("rows", .local), ("name", .local), ("one", .local), ("call", .local), ("other", .local), ("indexOf", .globalImplicit), ("parse_http_list", .globalImplicit), ("setitem", .globalImplicit), ("or_", .globalImplicit), ("lshift", .globalImplicit)] := ScOk.of (by decide) ((fn_names 21).trans rfl)
theorem id21 : (fn 21).name = "_law_read" := (fn_id 21).trans rfl
theorem sc22 : ScOk (fn 22) [("names", .local), ("error", .local), ("indexOf", .globalImplicit), ("ValueError", .globalImplicit), ("str", .globalImplicit)] := ScOk.of (by decide) ((fn_names 22).trans rfl)
theorem id22 : (fn 22).name = "_law_stranger" := (fn_id 22).trans rfl
theorem sc23 : ScOk (fn 23) [("row", .local), ("stairs", .local), ("bit", .local), ("base", .local), ("truth", .globalImplicit), ("and_", .globalImplicit), ("xor", .globalImplicit)] := ScOk.of (by decide) ((fn_names 23).trans rfl)
theorem id23 : (fn 23).name = "_law_reduced" := (fn_id 23).trans rfl
theorem sc24 : ScOk (fn 24) [("rows", .local), ("stairs", .local), ("quiet", .local), ("lamp", .local), ("row", .local), ("low", .local), ("range", .globalImplicit), ("_law_reduced", .globalImplicit), ("or_", .globalImplicit), ("lshift", .globalImplicit), ("and_", .globalImplicit), ("not_", .globalImplicit), ("rshift", .globalImplicit), ("neg", .globalImplicit)] := ScOk.of (by decide) ((fn_names 24).trans rfl)
theorem id24 : (fn 24).name = "_law_stairs" := (fn_id 24).trans rfl
theorem sc25 : ScOk (fn 25) [("rows", .local), ("made", .local), ("row", .cell)] := ScOk.of (by decide) ((fn_names 25).trans rfl)
theorem id25 : (fn 25).name = "_law_made" := (fn_id 25).trans rfl
theorem sc26 : ScOk (fn 26) [("rows", .cell), ("ways", .cell), ("lamp", .cell), ("rest", .cell), ("pairs", .local), ("range", .globalImplicit), ("sum", .globalImplicit)] := ScOk.of (by decide) ((fn_names 26).trans rfl)
theorem id26 : (fn 26).name = "_law_ways" := (fn_id 26).trans rfl
theorem sc27 : ScOk (fn 27) [("hue", .local), ("share", .local), ("level", .local), ("pressed", .local), ("first", .local), ("last", .local), ("hsv_to_rgb", .globalImplicit), ("truediv", .globalImplicit), ("rgb_to_hsv", .globalImplicit), ("add", .globalImplicit)] := ScOk.of (by decide) ((fn_names 27).trans rfl)
theorem id27 : (fn 27).name = "_law_mixed" := (fn_id 27).trans rfl
theorem sc28 : ScOk (fn 28) ns28 := ScOk.of (by decide) ((fn_names 28).trans rfl)
theorem id28 : (fn 28).name = "law" := (fn_id 28).trans rfl
section
variable {W : Wd} {n : Nat}
theorem f_not {v : PV} {b : Bool} (t : ∀ n, Truth W n v b) : Fun W (n + 1) (fn 0) [v] (.bool (!b)) :=
  Fun.of ["a"] sc0 (fun A Xc env Y h₀ => Ex.ret (fun X h C => Ev.una C (Ev.name C Look.head) (Op1.not (t _)))) (by intro pm code doc cvs h; obtain ⟨a, rfl⟩ := len1 h; rfl) (by decide +kernel) rfl
theorem f_truth {v : PV} {b : Bool} (t : ∀ n, Truth W n v b) : Fun W (n + 1) (fn 1) [v] (.bool b) :=
  Fun.of ["a"] sc1 (fun A Xc env Y h₀ => Ex.ret (fun X h C => Ev.ite (EvB.val C (Ev.name C Look.head) (t _)) (fun e => Ev.bool.cast (by rw [e])) (fun e => Ev.bool.cast (by rw [e])))) (by intro pm code doc cvs h; obtain ⟨a, rfl⟩ := len1 h; rfl) (by decide +kernel) rfl
theorem f_add {a b v : PV} (ho : ∀ n, Op2 W n (binaryOp .Add) a b v) : Fun W (n + 1) (fn 2) [a, b] v :=
  Fun.of ["a", "b"] sc2 (fun A Xc env Y h₀ => Ex.ret (fun X h C => Ev.bin C (Ev.name C Look.head) (Ev.name C (Look.tail Look.head)) (ho _))) (by intro pm code doc cvs h; obtain ⟨a, b, rfl⟩ := len2 h; rfl) (by decide +kernel) rfl
theorem f_and {a b v : PV} (ho : ∀ n, Op2 W n (binaryOp .BitAnd) a b v) : Fun W (n + 1) (fn 3) [a, b] v :=
  Fun.of ["a", "b"] sc3 (fun A Xc env Y h₀ => Ex.ret (fun X h C => Ev.bin C (Ev.name C Look.head) (Ev.name C (Look.tail Look.head)) (ho _))) (by intro pm code doc cvs h; obtain ⟨a, b, rfl⟩ := len2 h; rfl) (by decide +kernel) rfl
theorem f_shl {a b v : PV} (ho : ∀ n, Op2 W n (binaryOp .LShift) a b v) : Fun W (n + 1) (fn 4) [a, b] v :=
  Fun.of ["a", "b"] sc4 (fun A Xc env Y h₀ => Ex.ret (fun X h C => Ev.bin C (Ev.name C Look.head) (Ev.name C (Look.tail Look.head)) (ho _))) (by intro pm code doc cvs h; obtain ⟨a, b, rfl⟩ := len2 h; rfl) (by decide +kernel) rfl
theorem f_or {a b v : PV} (ho : ∀ n, Op2 W n (binaryOp .BitOr) a b v) : Fun W (n + 1) (fn 6) [a, b] v :=
  Fun.of ["a", "b"] sc6 (fun A Xc env Y h₀ => Ex.ret (fun X h C => Ev.bin C (Ev.name C Look.head) (Ev.name C (Look.tail Look.head)) (ho _))) (by intro pm code doc cvs h; obtain ⟨a, b, rfl⟩ := len2 h; rfl) (by decide +kernel) rfl
theorem f_shr {a b v : PV} (ho : ∀ n, Op2 W n (binaryOp .RShift) a b v) : Fun W (n + 1) (fn 7) [a, b] v :=
  Fun.of ["a", "b"] sc7 (fun A Xc env Y h₀ => Ex.ret (fun X h C => Ev.bin C (Ev.name C Look.head) (Ev.name C (Look.tail Look.head)) (ho _))) (by intro pm code doc cvs h; obtain ⟨a, b, rfl⟩ := len2 h; rfl) (by decide +kernel) rfl
theorem f_div {a b v : PV} (ho : ∀ n, Op2 W n (binaryOp .Div) a b v) : Fun W (n + 1) (fn 8) [a, b] v :=
  Fun.of ["a", "b"] sc8 (fun A Xc env Y h₀ => Ex.ret (fun X h C => Ev.bin C (Ev.name C Look.head) (Ev.name C (Look.tail Look.head)) (ho _))) (by intro pm code doc cvs h; obtain ⟨a, b, rfl⟩ := len2 h; rfl) (by decide +kernel) rfl
theorem f_xor {a b v : PV} (ho : ∀ n, Op2 W n (binaryOp .BitXor) a b v) : Fun W (n + 1) (fn 9) [a, b] v :=
  Fun.of ["a", "b"] sc9 (fun A Xc env Y h₀ => Ex.ret (fun X h C => Ev.bin C (Ev.name C Look.head) (Ev.name C (Look.tail Look.head)) (ho _))) (by intro pm code doc cvs h; obtain ⟨a, b, rfl⟩ := len2 h; rfl) (by decide +kernel) rfl
theorem f_neg {a : Int} : Fun W (n + 1) (fn 5) [.int a] (.int (-a)) :=
  Fun.of ["a"] sc5 (fun A Xc env Y h₀ => Ex.ret (fun X h C => Ev.una C (Ev.name C Look.head) Op1.neg)) (by intro pm code doc cvs h; obtain ⟨a, rfl⟩ := len1 h; rfl) (by decide +kernel) rfl
end

noncomputable abbrev N (k : Nat) : PV := .int (k : Nat)
theorem Ev.nat {W : Wd} {A : Around} {X : AS} {env : Env} {h : Heap} {k kd : Nat} {pos : Pos} : Ev W A X env h (.Constant (.int (@OfNat.ofNat Int k instOfNat)) kd pos) (N (@OfNat.ofNat Nat k (instOfNatNat k))) := Ev.int
theorem Fun.less {W : Wd} {n m : Nat} {d : DefRec} {args : List PV} {v : PV} (f : Fun W n d args v) (h : n ≤ m) : Fun W m d args v := fun A X s a o pm code doc cvs Q E O => f A X s a o pm code doc cvs Q E (O.less h)
end
local macro_rules | `(tactic| walk_at "m.look1") => `(tactic| first | with_reducible exact Look.head | (refine' Look.tail ?mbT; (case mbT => walk_at "m.look1")))
local macro_rules | `(tactic| walk_at "m.look") => `(tactic| ((try dsimp only [List.cons_append, List.nil_append, List.append_nil]); walk_at "m.look1"))
local macro_rules | `(tactic| walk_at "m.erase") => `(tactic| first | with_reducible exact Erase.nil | (with_reducible apply Erase.hit; walk_at "m.erase") | (apply Erase.miss (by decide +kernel); walk_at "m.erase"))
local macro_rules | `(tactic| walk_at "m.off") => `(tactic| first | with_reducible exact Off.nil | (refine Off.cons (by decide +kernel) ?_; walk_at "m.off"))
local macro_rules | `(tactic| walk_at "m.sub") => `(tactic| first | with_reducible exact Sub.nil | (refine Sub.cons ?mbA ?mbB; (case mbA => walk_at "m.look"); (case mbB => walk_at "m.sub")))
local macro_rules | `(tactic| walk_at "m.bind") => `(tactic| ((try dsimp only); first | exact Binds.nil | (apply Binds.cons; walk_at "m.erase"; walk_at "m.bind")))
section
open PySem PySem.Calls PyProof.Rows
theorem ownAll {names : List (Str × NameKind)} {xs : List Str} (h : xs.all (fun x => ownB names x) = true) : ∀ x ∈ xs, ownB names x = true := fun x hx => List.all_eq_true.mp h x hx
noncomputable def redS (row : Nat) (st : List (Nat × Nat)) : Nat := st.foldl (fun r p => if r &&& p.1 ≠ 0 then r ^^^ p.2 else r) row
noncomputable abbrev pairsN (st : List (Nat × Nat)) : PV := .list ((st.map fun p => (N p.1, N p.2)).map fun p => .tuple [p.1, p.2])

section
variable {W : Wd} {n : Nat}
set_option maxRecDepth 100000

theorem Truth.nat {k : Nat} : Truth W n (N k) (k != 0) := by
  have e : ((k : Int) != 0) = (k != 0) := by cases k <;> rfl
  exact e ▸ Truth.int
theorem Op2.is_true {a : Bool} : Op2 W n (compareOp .Is) (.bool a) (.bool true) (.bool a) := by
  have := @Op2.is_bool W n a true
  rwa [show (a == true) = a by cases a <;> rfl] at this
theorem redS_take {row : Nat} {st : List (Nat × Nat)} {i : Nat} {p : Nat × Nat} (h : st[i]? = some p) : redS row (st.take (i + 1)) = if redS row (st.take i) &&& p.1 ≠ 0 then redS row (st.take i) ^^^ p.2 else redS row (st.take i) := by
  unfold redS
  rw [List.take_add_one, h, List.foldl_append]
  rfl

theorem f_reduced (hW : W.ds = fns) {row : Nat} {st : List (Nat × Nat)} : Fun W (n + 2) (fn 23) [N row, pairsN st] (N (redS row st)) :=
  Fun.of ["row", "stairs"] sc23 (fun A Xc env Y h₀ => by
    show Ex _ _ [("row", N row), ("stairs", pairsN st)] [] _
    refine Ex.forK (xs := ["bit", "base"]) (rows := (st.map fun p => (N p.1, N p.2)).map fun p => [p.1, p.2]) (fun i => ([("row", N (redS row (st.take i))), ("stairs", pairsN st)], [])) st.length
      (fun X h C => EvIter.pairs C (Ev.name C (by walk_at "m.look"))) rfl (ownAll (by dsimp only; decide +kernel)) (fun i r hi hr => ?_) (.inl ⟨by simp, ?_⟩)
    · have hi' : st[i]? = some st[i] := List.getElem?_eq_getElem hi
      generalize st[i] = p at hi'
      have hr' : r = [N p.1, N p.2] := by simpa [hi'] using hr.symm
      subst hr'
      refine ⟨fun x _ => Off.nil, _, by walk_at "m.bind", .inl ?_⟩
      refine Ex.ite (c := (redS row (st.take i) &&& p.1) != 0) (fun X h C => EvB.cmp C (Ev.callF C (fn 1) (EvArgs.cons (Ev.callF C (fn 3) (EvArgs.cons (Ev.name C (by walk_at "m.look")) (EvArgs.cons (Ev.name C (by walk_at "m.look")) EvArgs.nil)) (f_and (fun n => Op2.and_nat)) (hW ▸ fn_mem (by decide)) id3) EvArgs.nil) (f_truth (b := (redS row (st.take i) &&& p.1) != 0) fun n => Truth.nat) (hW ▸ fn_mem (by decide)) id1) Ev.bool Op2.is_true) (fun hc => ?_) (fun hc => ?_)
      · refine ⟨_, Ex.assign (fun X h C => Ev.callF C (fn 9) (EvArgs.cons (Ev.name C (by walk_at "m.look")) (EvArgs.cons (Ev.name C (by walk_at "m.look")) EvArgs.nil)) (f_xor (fun n => Op2.xor_nat)) (hW ▸ fn_mem (by decide)) id9) (by walk_at "m.erase") (by walk_at "m.off") Ex.nil, Then.next (Ex.done ?_)⟩
        have e := redS_take (row := row) hi'
        rw [if_pos (by simpa using hc)] at e
        show Sub [("row", N (redS row (st.take (i + 1)))), ("stairs", pairsN st)] _
        rw [e]
        walk_at "m.sub"
      · refine ⟨_, Ex.nil, Then.next (Ex.done ?_)⟩
        have e := redS_take (row := row) hi'
        rw [if_neg (by simpa using hc)] at e
        show Sub [("row", N (redS row (st.take (i + 1)))), ("stairs", pairsN st)] _
        rw [e]
        walk_at "m.sub"
    · exact Ex.ret fun X h C => (Ev.name C (by walk_at "m.look")).cast (by simp [redS])) (by intro pm code doc cvs h; obtain ⟨a, b, rfl⟩ := len2 h; rfl) (by decide +kernel) rfl
end
end
section
open PySem PySem.Calls PyProof.Rows
noncomputable abbrev Ns (l : List Nat) : PV := .list (l.map N)
theorem mem_of {W : Wd} {i : Nat} (h : W.ds = fns) (hi : i < 29) : fn i ∈ W.ds := h ▸ fn_mem hi
theorem Op2.sub_Ns {W : Wd} {n : Nat} {value slice : Expr} {l : List Nat} {k v : Nat} (hx : l[k]? = some v) (hk : k < 2 ^ 63 := by omega)
    (hs : ∀ o i, subscripted slice false o i = operate [o, i] (getItem o i) := by intro _ _; with_unfolding_all rfl) : Op2 W n (subscriptTail value slice) (Ns l) (N k) (N v) := Op2.sub_list (by rw [List.getElem?_map, hx]; rfl) hk hs
end
local macro_rules | `(tactic| walk_at "m.ds") => `(tactic| (exact mem_of (by assumption) (by decide)))
local macro_rules | `(tactic| walk_at "m.call") => `(tactic| first
  | (refine' Ev.callF (by assumption) (fn 3) ?mbG (f_and fun _ => Op2.and_nat) ?mbD id3; (case mbD => walk_at "m.ds"); (case mbG => walk_at "m.args"))
  | (refine' Ev.callF (by assumption) (fn 6) ?mbG (f_or fun _ => Op2.or_nat) ?mbD id6; (case mbD => walk_at "m.ds"); (case mbG => walk_at "m.args"))
  | (refine' Ev.callF (by assumption) (fn 9) ?mbG (f_xor fun _ => Op2.xor_nat) ?mbD id9; (case mbD => walk_at "m.ds"); (case mbG => walk_at "m.args"))
  | (refine' Ev.callF (by assumption) (fn 7) ?mbG (f_shr fun _ => Op2.shr_nat) ?mbD id7; (case mbD => walk_at "m.ds"); (case mbG => walk_at "m.args"))
  | (refine' Ev.callF (by assumption) (fn 4) ?mbG (f_shl fun _ => Op2.shl_nat ?mbU ?mbV) ?mbD id4; (case mbD => walk_at "m.ds"); (case mbG => walk_at "m.args"); (case mbU => walk_at "m.lt"); (case mbV => walk_at "m.lt")))
local macro_rules | `(tactic| walk_at "m.lt") => `(tactic| first | decide | omega | (simp; done) | (simp; omega))
local macro_rules | `(tactic| walk_at "m.args") => `(tactic| first | exact EvArgs.nil | (refine' EvArgs.cons ?mbX ?mbY; (case mbX => walk_at "m.ev"); (case mbY => walk_at "m.args")))
local macro_rules | `(tactic| walk_at "m.opl") => `(tactic| first
  | exact Op2.and_nat | exact Op2.or_nat | exact Op2.xor_nat | exact Op2.shr_nat | exact Op2.add_nat | exact Op2.eq_nat | exact Op2.ne_nat | exact Op2.eq_bool | exact Op2.is_true | exact Op2.is_bool | exact Op2.isnot_bool | exact Op2.eq_str | exact Op2.ne_str
  | (refine' Op2.mod_nat ?_ <;> walk_at "m.lt") | (refine' Op2.fdiv_nat ?_ ?_ <;> walk_at "m.lt") | (refine' Op2.mul_nat ?_ <;> walk_at "m.lt") | (refine' Op2.shl_nat ?_ ?_ <;> walk_at "m.lt")
  | exact Op2.add_int | exact Op2.sub_int)
local macro_rules | `(tactic| walk_at "m.op") => `(tactic| first | with_reducible walk_at "m.opl" | walk_at "m.opl")
local macro_rules | `(tactic| walk_at "m.ev") => `(tactic| first
  | exact Ev.nat | exact Ev.bool | exact Ev.str
  | (refine' Ev.name (by assumption) ?mbL; (case mbL => walk_at "m.look"))
  | (refine' Ev.bin (by assumption) ?mbP ?mbQ ?mbR; (case mbP => walk_at "m.ev"); (case mbQ => walk_at "m.ev"); (case mbR => walk_at "m.op"))
  | (refine' Ev.cmp (by assumption) ?mbP ?mbQ ?mbR; (case mbP => walk_at "m.ev"); (case mbQ => walk_at "m.ev"); (case mbR => walk_at "m.op"))
  | (refine' Ev.sub (by assumption) ?mbP ?mbQ ?mbR; (case mbP => walk_at "m.ev"); (case mbQ => walk_at "m.ev"); (case mbR => walk_at "m.ix"))
  | (refine' Ev.tuple (by assumption) ?mbP ?mbQ; (case mbP => walk_at "m.args"); (case mbQ => simp))
  | (refine' Ev.list (by assumption) ?mbP ?mbQ; (case mbP => walk_at "m.args"); (case mbQ => simp))
  | walk_at "m.call")
local macro_rules | `(tactic| walk_at "m.ix") => `(tactic| first | exact Op2.sub_Ns (by assumption) (by omega) | exact Op2.sub_list (by assumption) (by omega))
local macro_rules | `(tactic| walk_at "m.e1") => `(tactic| (intro X h C; walk_at "m.ev"))
section
open PySem PySem.Calls PyProof.Rows
noncomputable def lowb (k : Nat) : Nat := (Builtin.bitAnd (k : Int) (-(k : Int))).toNat
theorem lowb_is {k : Nat} (h : k < 64) : Builtin.bitAnd (k : Int) (-(k : Int)) = (lowb k : Nat) := by
  have : ∀ k : Fin 64, Builtin.bitAnd (k.val : Int) (-(k.val : Int)) = (lowb k.val : Nat) := by decide +kernel
  exact this ⟨k, h⟩
noncomputable def stStep (rows : List Nat) (p : List (Nat × Nat) × List Nat) (lamp : Nat) : List (Nat × Nat) × List Nat :=
  let row := redS (rows[lamp]! ||| (1 <<< (lamp + 6))) p.1
  let low := row &&& 63
  if low = 0 then (p.1, p.2 ++ [row >>> 6]) else (p.1 ++ [(lowb low, row)], p.2)
noncomputable def stS (rows : List Nat) (k : Nat) : List (Nat × Nat) × List Nat := (List.range k).foldl (stStep rows) ([], [])
theorem stS_succ (rows : List Nat) (k : Nat) : stS rows (k + 1) = stStep rows (stS rows k) k := by
  unfold stS
  rw [List.range_succ, List.foldl_append]
  rfl
theorem stS_len (rows : List Nat) : ∀ k, (stS rows k).1.length ≤ k ∧ (stS rows k).2.length ≤ k
  | 0 => ⟨Nat.le_refl _, Nat.le_refl _⟩
  | k + 1 => by
    have := stS_len rows k
    rw [stS_succ]
    unfold stStep
    dsimp only
    split <;> simp <;> omega

theorem Ns_snoc {l : List Nat} {k : Nat} : Ns (l ++ [k]) = .list (l.map N ++ [N k]) := by simp
theorem pairsN_snoc {l : List (Nat × Nat)} {a b : Nat} : pairsN (l ++ [(a, b)]) = .list (((l.map fun p => (N p.1, N p.2)).map fun p => .tuple [p.1, p.2]) ++ [.tuple [N a, N b]]) := by simp
section
variable {W : Wd} {n : Nat}
set_option maxRecDepth 100000
set_option maxHeartbeats 4000000 in
theorem f_stairs (hW : W.ds = fns) {rows : List Nat} (hr : rows.length = 6) : Fun W (n + 3) (fn 24) [Ns rows] (.tuple [pairsN (stS rows 6).1, Ns (stS rows 6).2]) :=
  Fun.of ["rows"] sc24 (fun A Xc env Y h₀ => by
    show Ex _ _ [("rows", Ns rows)] [] _
    refine Ex.pairO (v1 := pairsN []) (v2 := Ns []) (fun X h C => EvN.list EvArgs.nil (by simp)) (fun X h C => EvN.list EvArgs.nil (by simp)) rfl rfl (by walk_at "m.erase") (by walk_at "m.erase") Off.nil Off.nil (by decide +kernel) ?_
    refine Ex.forK (xs := ["lamp"]) (rows := (List.range 6).map fun i => [.int (i : Nat)]) (fun i => ([("rows", Ns rows)], [("stairs", pairsN (stS rows i).1), ("quiet", Ns (stS rows i).2)])) 6
      (fun X h C => EvIter.range1 C Ev.nat) rfl (ownAll (by dsimp only; decide +kernel)) (fun i r hi hrow => ?_) (.inl ⟨rfl, ?_⟩)
    · have hr' : r = [N i] := by
        rw [List.getElem?_map, List.getElem?_range hi] at hrow
        exact (Option.some.inj hrow).symm
      subst hr'
      obtain ⟨v, hv⟩ : ∃ v, rows[i]? = some v := ⟨rows[i], List.getElem?_eq_getElem _⟩
      have hl := stS_len rows i
      refine ⟨fun x hx => by rw [List.mem_singleton.mp hx]; walk_at "m.off", _, by walk_at "m.bind", .inl ?_⟩
      refine Ex.assignF (v := N (redS (v ||| (1 <<< (i + 6))) (stS rows i).1)) (fun X h C => ?_) rfl (by walk_at "m.erase") (by walk_at "m.off") ?_
      · refine' Ev.callF C (fn 23) ?a (f_reduced hW) (by walk_at "m.ds") id23
        case a => walk_at "m.args"
      generalize hR : redS (v ||| (1 <<< (i + 6))) (stS rows i).1 = R
      have hstep : stS rows (i + 1) = if R &&& 63 = 0 then ((stS rows i).1, (stS rows i).2 ++ [R >>> 6]) else ((stS rows i).1 ++ [(lowb (R &&& 63), R)], (stS rows i).2) := by
        rw [stS_succ]
        unfold stStep
        have : rows[i]! = v := by rw [List.getElem!_eq_getElem?_getD, hv]; rfl
        rw [this, hR]
      have h63 : R &&& 63 < 64 := Nat.lt_of_le_of_lt Nat.and_le_right (by decide)
      refine Ex.assign (v := N (R &&& 63)) (by walk_at "m.e1") (by walk_at "m.erase") (by walk_at "m.off") ?_
      refine Ex.ite (c := !((R &&& 63) != 0)) (fun X h C => EvB.cmp C (Ev.callF C (fn 0) (by walk_at "m.args") (f_not fun _ => Truth.nat) (by walk_at "m.ds") id0) Ev.bool Op2.is_true) (fun hc => ?_) (fun hc => ?_)
      · have hz : R &&& 63 = 0 := by simpa using hc
        rw [if_pos hz] at hstep
        refine ⟨_, Ex.append (v := N (R >>> 6)) (.inl (by walk_at "m.e1")) (.miss .hit) (by simp; omega) Ex.nil, ?_⟩
        show Then _ _ _ (.next [("rows", Ns rows)] [("stairs", pairsN (stS rows (i + 1)).1), ("quiet", Ns (stS rows (i + 1)).2)])
        rw [hstep, Ns_snoc]
        exact Then.next (Ex.done (by walk_at "m.sub"))
      · have hz : R &&& 63 ≠ 0 := by simpa using hc
        rw [if_neg hz] at hstep
        refine ⟨_, Ex.append (v := .tuple [N (lowb (R &&& 63)), N R]) (.inl (fun X h C => Ev.tuple C (EvArgs.cons ((Ev.callF C (fn 3) (EvArgs.cons (by walk_at "m.ev") (EvArgs.cons (Ev.callF C (fn 5) (EvArgs.cons (by walk_at "m.ev") EvArgs.nil) f_neg (by walk_at "m.ds") id5) EvArgs.nil)) (f_and fun _ => Op2.and_int) (by walk_at "m.ds") id3).cast (by rw [lowb_is h63])) (EvArgs.cons (by walk_at "m.ev") EvArgs.nil)) (by simp))) .hit (by simp; omega) Ex.nil, ?_⟩
        show Then _ _ _ (.next [("rows", Ns rows)] [("stairs", pairsN (stS rows (i + 1)).1), ("quiet", Ns (stS rows (i + 1)).2)])
        rw [hstep, pairsN_snoc]
        exact Then.next (Ex.done (by walk_at "m.sub"))
    · exact Ex.ret (by walk_at "m.e1")) (by intro pm code doc cvs h; obtain ⟨a, rfl⟩ := len1 h; rfl) (by decide +kernel) rfl
end
end
section
open PySem PySem.Calls PyProof.Rows
/-- a comprehension's turns: what each adds, or nothing -/
structure CompB (W : Wd) (A : Around) (n : Nat) (names : List (Str × NameKind)) (ρ' : List (Str × PV)) (xs : List Str) (rows : List (List PV)) (os : List (Option PV)) (elt : Expr) (ifs : List Expr) (scope : Scope) : Prop where
  len : os.length = rows.length
  body : ∀ (i : Nat) (row : List PV) (o : Option PV), rows[i]? = some row → os[i]? = some o → ∀ X' env' h', Cx W A n X' env' h' (relN names scope.names) (xs.zip row ++ ρ') →
    match o with | none => EvIfs W A env' h' ifs false | some w => EvIfs W A env' h' ifs true ∧ Ev W A X' env' h' elt w

section
variable {W : Wd} {A : Around} {n : Nat} {X : AS} {env : Env} {h : Heap} {names : List (Str × NameKind)} {ρ ρ' : List (Str × PV)}

theorem flat_toList : ∀ os : List (Option PV), (os.map Option.toList).flatten = os.filterMap id
  | [] => rfl
  | none :: r => by simp [flat_toList r]
  | some a :: r => by simp [flat_toList r]

theorem CompB.go {xs : List Str} {rows : List (List PV)} {os : List (Option PV)} {elt : Expr} {ifs : List Expr} {scope : Scope} (B : CompB W A n names ρ' xs rows os elt ifs scope) (i : Nat) (row out : List PV) (hr : rows[i]? = some row) (ho : (os.map Option.toList)[i]? = some out)
    (X' : AS) (env' : Env) (h' : Heap) (C : Cx W A n X' env' h' (relN names scope.names) (xs.zip row ++ ρ')) : ∃ b v, out = outOf b v ∧ EvIfs W A env' h' ifs b ∧ (b = true → Ev W A X' env' h' elt v) := by
  rw [List.getElem?_map] at ho
  cases e : os[i]? with
  | none => rw [e] at ho; cases ho
  | some o =>
    rw [e] at ho
    have := B.body i row o hr e X' env' h' C
    cases o with
    | none => exact ⟨false, .none, (Option.some.inj ho).symm, this, fun q => nomatch q⟩
    | some w => exact ⟨true, w, (Option.some.inj ho).symm, this.1, fun _ => this.2⟩

theorem Ev.compB (C : Cx W A n X env h names ρ) {elt target iter : Expr} {ifs : List Expr} {scope : Scope} {pos : Pos} {xs : List Str} {rows : List (List PV)} (os : List (Option PV)) (hit : EvIter W A X env h iter target xs rows) (cap : Cap scope.names ρ ρ') (hok : compOk names scope.names xs = true)
    (B : CompB W A n names ρ' xs rows os elt ifs scope) (htot : (os.filterMap id).length ≤ 100000) (hkind : scope.kind = .function := by rfl) (hs : ∀ x, foldedSetIterable iter env x = pure x := by intro _; rfl) :
    Ev W A X env h (.ListComp elt [⟨target, iter, ifs, 0⟩] scope pos) (.list (os.filterMap id)) := by
  rw [← flat_toList]
  exact Ev.comp C hit cap hok (by rw [List.length_map, B.len]) (by rw [flat_toList]; exact htot) B.go hkind hs
theorem EvN.compB (C : Cx W A n X env h names ρ) {elt target iter : Expr} {ifs : List Expr} {scope : Scope} {pos : Pos} {xs : List Str} {rows : List (List PV)} (os : List (Option PV)) (hit : EvIter W A X env h iter target xs rows) (cap : Cap scope.names ρ ρ') (hok : compOk names scope.names xs = true)
    (B : CompB W A n names ρ' xs rows os elt ifs scope) (htot : (os.filterMap id).length ≤ 100000) (hkind : scope.kind = .function := by rfl) (hs : ∀ x, foldedSetIterable iter env x = pure x := by intro _; rfl) :
    EvN W A X env h (.ListComp elt [⟨target, iter, ifs, 0⟩] scope pos) (.list (os.filterMap id)) := by
  rw [← flat_toList]
  exact EvN.comp C hit cap hok (by rw [List.length_map, B.len]) (by rw [flat_toList]; exact htot) B.go hkind hs
theorem CompS.ofB {F : Fp} {ρ ρ' : List (Str × PV)} {elt target iter : Expr} {ifs : List Expr} {scope : Scope} {pos px : Pos} {x : Str} {xs : List Str} {rows : List (List PV)} (os : List (Option PV)) (hit : ∀ X h, Cx F.W F.A F.n X F.env h F.names ρ → EvIter F.W F.A X F.env h iter target xs rows)
    (cap : Cap scope.names ρ ρ') (hok : compOk F.names scope.names xs = true) (B : CompB F.W F.A F.n F.names ρ' xs rows os elt ifs scope) (htot : (os.filterMap id).length ≤ 100000) (loc : F.names.lookup x = some .local)
    (hkind : scope.kind = .function := by rfl) (hs : ∀ x, foldedSetIterable iter F.env x = pure x := by intro _; rfl) (line : (px.line == pos.line) = true := by rfl)
    (free : (scope.names.any fun p => p.1 == x && (p.2 == .local || p.2 == .cell)) = false := by decide +kernel) : CompS F ρ elt target iter ifs scope pos px x (os.map Option.toList) :=
  ⟨⟨xs, rows, ρ', hit, cap, hok, by rw [List.length_map, B.len], B.go⟩, by rw [flat_toList]; exact htot, hkind, hs, loc, line, free⟩

theorem fm_some (ws : List PV) : (ws.map some).filterMap id = ws := by simp
/-- a comprehension without tests over one name -/
theorem CompB.map {x : Str} {l ws : List PV} {elt : Expr} {scope : Scope} (hl : ws.length = l.length) (body : ∀ (i : Nat) (v w : PV), l[i]? = some v → ws[i]? = some w → ∀ X' env' h', Cx W A n X' env' h' (relN names scope.names) ((x, v) :: ρ') → Ev W A X' env' h' elt w) :
    CompB W A n names ρ' [x] (l.map fun v => [v]) (ws.map some) elt [] scope := ⟨by simp [hl], fun i row o hr ho X' env' h' C => by
  obtain ⟨v, hv, rfl⟩ := rows_one hr
  rw [List.getElem?_map] at ho
  cases e : ws[i]? with
  | none => rw [e] at ho; cases ho
  | some w =>
    rw [e] at ho
    cases ho
    exact ⟨EvIfs.nil, body i v w hv e X' env' h' C⟩⟩
/-- a comprehension with one test over one name -/
theorem CompB.filter {x : Str} {l : List PV} {os : List (Option PV)} {elt t : Expr} {scope : Scope} (hl : os.length = l.length) (body : ∀ (i : Nat) (v : PV) (o : Option PV), l[i]? = some v → os[i]? = some o → ∀ X' env' h', Cx W A n X' env' h' (relN names scope.names) ((x, v) :: ρ') → EvB W A env' h' t o.isSome ∧ ∀ w, o = some w → Ev W A X' env' h' elt w) :
    CompB W A n names ρ' [x] (l.map fun v => [v]) os elt [t] scope := ⟨by simp [hl], fun i row o hr ho X' env' h' C => by
  obtain ⟨v, hv, rfl⟩ := rows_one hr
  obtain ⟨b, e⟩ := body i v o hv ho X' env' h' C
  cases o with
  | none => exact EvIfs.one b
  | some w => exact ⟨EvIfs.one b, e w rfl⟩⟩

theorem Op2.add_list {l1 l2 : List PV} (hl : l1.length + l2.length ≤ 100000) : Op2 W n (binaryOp .Add) (.list l1) (.list l2) (.list (l1 ++ l2)) := fun A X s ca cb Q E O ra rb p => by
  obtain ⟨a1, rfl, v1, n1, na, ia, r1⟩ := Rep.listI ra
  obtain ⟨a2, rfl, v2, n2, nb, ib, r2⟩ := Rep.listI rb
  have h1 := r1.length
  have h2 := r2.length
  refine P.add_list ia ib ?_ (by rw [List.size_toArray, List.size_toArray, sizeLine_eq]; omega)
  have e : v1.toArray ++ v2.toArray = (v1 ++ v2).toArray := by simp
  rw [e]
  exact p (.ref s.heap.objs.size) _ s.toks ⟨Le.push _ _, O.lo⟩ (.list (n := 0) O.ok.new (Heap.get?_push_size _ rfl) ((r1.append r2).mono (Le.push _ _)))
end
end
local macro_rules | `(tactic| walk_at "m.cap1") => `(tactic| first | with_reducible exact Cap.nil | (refine' Cap.keep (by decide +kernel) ?mbK; (case mbK => walk_at "m.cap1")) | (refine' Cap.drop ?mbK; (case mbK => walk_at "m.cap1")))
local macro_rules | `(tactic| walk_at "m.cap") => `(tactic| ((try dsimp only [List.cons_append, List.nil_append, List.append_nil]); walk_at "m.cap1"))
local macro_rules | `(tactic| walk_at "m.ok") => `(tactic| first | decide +kernel | (dsimp only; decide +kernel))
section
open PySem PySem.Calls PyProof.Rows
theorem get_map {α β : Type} {l : List α} {f : α → β} {i : Nat} {v : β} (hv : (l.map f)[i]? = some v) : ∃ k, l[i]? = some k ∧ v = f k := by
  rw [List.getElem?_map] at hv
  cases e : l[i]? with
  | none => rw [e] at hv; cases hv
  | some k => rw [e] at hv; exact ⟨k, rfl, (Option.some.inj hv).symm⟩
theorem get_map2 {α β γ : Type} {l : List α} {f : α → β} {g : α → γ} {i : Nat} {v : β} {w : γ} (hv : (l.map f)[i]? = some v) (hw : (l.map g)[i]? = some w) : ∃ k, l[i]? = some k ∧ v = f k ∧ w = g k := by
  obtain ⟨k, hk, rfl⟩ := get_map hv
  rw [List.getElem?_map, hk] at hw
  exact ⟨k, hk, rfl, (Option.some.inj hw).symm⟩
theorem range_row {f : Nat → PV} {m i : Nat} {r : List PV} (hi : i < m) (hr : ((List.range m).map fun i => ([f i] : List PV))[i]? = some r) : r = [f i] := by
  rw [List.getElem?_map, List.getElem?_range hi] at hr
  exact (Option.some.inj hr).symm

noncomputable def madeS (rows : List Nat) : List Nat := rows.foldl (fun m r => m ++ m.map (· ^^^ r)) [0]
theorem madeS_take {rows : List Nat} {i r : Nat} (h : rows[i]? = some r) : madeS (rows.take (i + 1)) = madeS (rows.take i) ++ (madeS (rows.take i)).map (· ^^^ r) := by
  unfold madeS
  rw [List.take_add_one, h, List.foldl_append]
  rfl
theorem madeS_len : ∀ rows : List Nat, (madeS rows).length = 2 ^ rows.length := by
  have gen : ∀ (rows m : List Nat), (rows.foldl (fun m r => m ++ m.map (· ^^^ r)) m).length = m.length * 2 ^ rows.length := by
    intro rows
    induction rows with
    | nil => intro m; simp
    | cons r rs ih =>
      intro m
      rw [List.foldl_cons, ih, List.length_append, List.length_map, List.length_cons, Nat.pow_succ]
      have : m.length + m.length = m.length * 2 := by omega
      rw [this, Nat.mul_assoc, Nat.mul_comm 2]
  intro rows
  rw [madeS, gen]
  simp

section
variable {W : Wd} {n : Nat}
set_option maxRecDepth 100000
set_option maxHeartbeats 4000000 in
theorem f_made (hW : W.ds = fns) {rows : List Nat} (hr : rows.length ≤ 6) : Fun W (n + 1) (fn 25) [Ns rows] (Ns (madeS rows)) :=
  Fun.of ["rows"] sc25 (fun A Xc env Y h₀ => by
    show Ex _ _ [("rows", Ns rows)] [] _
    refine Ex.assign (v := Ns [0]) (by walk_at "m.e1") (by walk_at "m.erase") (by walk_at "m.off") ?_
    refine Ex.forK (xs := ["row"]) (rows := (rows.map N).map fun v => [v]) (fun i => ([("made", Ns (madeS (rows.take i))), ("rows", Ns rows)], [])) rows.length
      (fun X h C => EvIter.list C (by walk_at "m.ev")) rfl (ownAll (by dsimp only; decide +kernel)) (fun i r hi hrow => ?_) (.inl ⟨by simp, ?_⟩)
    · obtain ⟨v, hv, rfl⟩ := rows_one hrow
      obtain ⟨k, hk, rfl⟩ := get_map hv
      refine ⟨fun x hx => by walk_at "m.off", _, by walk_at "m.bind", .inl ?_⟩
      have hlen : (madeS (rows.take i)).length ≤ 64 := by
        rw [madeS_len]
        have : (rows.take i).length ≤ 6 := by rw [List.length_take]; omega
        exact Nat.le_trans (Nat.pow_le_pow_right (by decide) this) (by decide)
      have e := madeS_take hk
      generalize madeS (rows.take i) = m at hlen e ⊢
      refine Ex.assign (v := .list (m.map N ++ (m.map fun a => N (a ^^^ k)))) (fun X h C => Ev.bin C (by walk_at "m.ev") ((Ev.compB (ρ' := [("row", N k)]) C ((m.map fun a => N (a ^^^ k)).map some) (EvIter.list C (by walk_at "m.ev")) (by walk_at "m.cap") (by walk_at "m.ok") (CompB.map (by simp) fun j v w hv hw X' env' h' C' => ?_) (by simp; omega)).cast (by rw [fm_some])) (Op2.add_list (by simp; omega))) (by walk_at "m.erase") (by walk_at "m.off") ?_
      · obtain ⟨a, _, rfl, rfl⟩ := get_map2 hv hw
        walk_at "m.ev"
      · refine Ex.done ?_
        show Sub [("made", Ns (madeS (rows.take (i + 1)))), ("rows", Ns rows)] _
        rw [e, show Ns (m ++ m.map (· ^^^ k)) = .list (m.map N ++ (m.map fun a => N (a ^^^ k))) by simp [Function.comp_def]]
        walk_at "m.sub"
    · exact Ex.ret fun X h C => Ev.cast (v := Ns (madeS (rows.take rows.length))) (by walk_at "m.ev") (by rw [List.take_length])) (by intro pm code doc cvs h; obtain ⟨a, rfl⟩ := len1 h; rfl) (by decide +kernel) rfl
end
end
section
open PySem PySem.Calls PyProof.Rows
theorem RepAll.ints {X : AS} {h : Heap} {vs : List Value} {ns : List Int} (r : RepAll X h vs (ns.map .int)) : IntsAre vs ns := by
  induction ns generalizing vs with
  | nil => obtain rfl := RepAll.nilI r; exact .nil
  | cons y ys ih =>
    obtain ⟨v, ws, rfl, a, b⟩ := RepAll.consI r
    obtain ⟨t, rfl⟩ := Rep.intI a
    exact .cons _ _ (ih b)
theorem RepAll.nats {X : AS} {h : Heap} {vs : List Value} {l : List Nat} (r : RepAll X h vs (l.map N)) : IntsAre vs (l.map fun k : Nat => (k : Int)) := by
  have e : l.map N = (l.map fun k : Nat => (k : Int)).map .int := by simp [Function.comp_def]
  rw [e] at r
  exact r.ints
theorem sum_cast : ∀ l : List Nat, (l.map fun k : Nat => (k : Int)).sum = ((l.sum : Nat) : Int)
  | [] => rfl
  | a :: r => by rw [List.map_cons, List.sum_cons, List.sum_cons, sum_cast r]; omega

section
variable {W : Wd} {n : Nat}
theorem Op.sum {l : List Nat} : Op W n (fun cvs => call (.builtin "sum") cvs) [Ns l] (N l.sum) := fun A X s cvs Q E O r p => by
  obtain ⟨_, _, rfl, a, b⟩ := RepAll.consI r
  cases b
  obtain ⟨ad, rfl, vs, m, na, ia, ra⟩ := Rep.listI a
  have hi := ra.nats
  have hall := hi.allInts
  have hn := hi.numsOf
  obtain ⟨xs, hx⟩ := hall.items
  have hx' : vs = (intItems xs).toList := by rw [← hx]
  refine wpAny_toks (sum_intListG (xs := xs) O.room.handled (by rw [← hx]; exact ia.isList) fun h' tk t' hk => fun hle => ?_)
  have e : preSum (numAt xs) xs.size = ((l.sum : Nat) : Int) := by
    rw [preSum_eq, List.take_of_length_le (by simp), ← nums_intItems, ← hx', hn, sum_cast]
  rw [e]
  exact p _ h' tk ⟨hk, Nat.le_trans O.lo hle⟩ (.int _ _)
end

section
variable {F : Fp} {ρ ρ' ow ow' : List (Str × PV)} {r : R} {rest : List Stmt}
theorem Ex.compSB {elt target iter : Expr} {ifs : List Expr} {scope : Scope} {pos px spos : Pos} {x : Str} {os : List (Option PV)} {v : PV} (c : CompS F (ρ ++ ow) elt target iter ifs scope pos px x (os.map Option.toList)) (hv : PV.list (os.filterMap id) = v) (sh : v.shal = true) (er : Erase x ρ ρ') (off : Off x ow)
    (hr : Ex F rest ((x, v) :: ρ') ow r) : Ex F (.Assign [.Name x px] (.ListComp elt [⟨target, iter, ifs, 0⟩] scope pos) spos :: rest) ρ ow r := by
  have e : PV.list (os.map Option.toList).flatten = v := by rw [flat_toList]; exact hv
  exact Ex.compS c (by rw [e]; exact sh) er off (by rw [e]; exact hr)
theorem Ex.compOB {elt target iter : Expr} {ifs : List Expr} {scope : Scope} {pos px spos : Pos} {x : Str} {os : List (Option PV)} {v : PV} (c : CompS F (ρ ++ ow) elt target iter ifs scope pos px x (os.map Option.toList)) (hv : PV.list (os.filterMap id) = v) (sh : v.shal = true) (er : Erase x ρ ρ') (off : Off x ow)
    (hr : Ex F rest ρ' ((x, v) :: ow) r) : Ex F (.Assign [.Name x px] (.ListComp elt [⟨target, iter, ifs, 0⟩] scope pos) spos :: rest) ρ ow r := by
  have e : PV.list (os.map Option.toList).flatten = v := by rw [flat_toList]; exact hv
  exact Ex.compO c (by rw [e]; exact sh) er off (by rw [e]; exact hr)
theorem Ex.compFB {elt target iter : Expr} {ifs : List Expr} {scope : Scope} {pos px spos : Pos} {x : Str} {os : List (Option PV)} {v : PV} (c : CompS F ρ elt target iter ifs scope pos px x (os.map Option.toList)) (hv : PV.list (os.filterMap id) = v) (er : Erase x ρ ρ') (off : Off x ow)
    (hr : Ex F rest ((x, v) :: ρ') ow r) : Ex F (.Assign [.Name x px] (.ListComp elt [⟨target, iter, ifs, 0⟩] scope pos) spos :: rest) ρ ow r := by
  have e : PV.list (os.map Option.toList).flatten = v := by rw [flat_toList]; exact hv
  exact Ex.compF c er off (by rw [e]; exact hr)
end

theorem EvIter.rangeN {W : Wd} {A : Around} {n : Nat} {X : AS} {env : Env} {h : Heap} {names : List (Str × NameKind)} {ρ : List (Str × PV)} (C : Cx W A n X env h names ρ) {e : Expr} {p pos : Pos} {x : Str} {px : Pos} {M : Nat} (he : Ev W A X env h e (N M)) (hN : M < 2 ^ 62 := by omega)
    (hk : names.lookup ("range" : Str) = some .globalImplicit := by first | decide +kernel | (dsimp only; decide +kernel)) (hs : starEach [e] env = [(false, eval e env)] := by rfl) :
    EvIter W A X env h (.Call (.Name "range" p) [e] [] pos) (.Name x px) [x] (((List.range M).map N).map fun v => [v]) := by
  have := EvIter.range1 C (x := x) (px := px) (p := p) (pos := pos) he hN hk hs
  rwa [List.map_map]

theorem Ns_shal {l : List Nat} : (Ns l).shal = true := by
  show (l.map N).all PV.flat = true
  rw [List.all_eq_true]
  intro x hx
  obtain ⟨k, _, rfl⟩ := List.mem_map.mp hx
  rfl
/-! the ways -/
noncomputable def pairsS (row lamp : Nat) (m : List Nat) (rest : Nat) : List Nat := (List.range lamp).filterMap fun o => if row &&& rest &&& (1 <<< o) ≠ 0 then some m[rest ^^^ (1 <<< o)]! else none
noncomputable def wStep (row lamp : Nat) (m : List Nat) (rest : Nat) : List Nat := m ++ [((row >>> lamp) &&& 1) * m[rest]! + (pairsS row lamp m rest).sum]
noncomputable def wIn (row lamp : Nat) (m : List Nat) (j : Nat) : List Nat := (List.range j).foldl (wStep row lamp) m
noncomputable def wOut (rows : List Nat) (i : Nat) : List Nat := (List.range i).foldl (fun m lamp => wIn rows[lamp]! lamp m (1 <<< lamp)) [1]
theorem wIn_succ (row lamp : Nat) (m : List Nat) (j : Nat) : wIn row lamp m (j + 1) = wStep row lamp (wIn row lamp m j) j := by
  unfold wIn; rw [List.range_succ, List.foldl_append]; rfl
theorem wOut_succ (rows : List Nat) (i : Nat) : wOut rows (i + 1) = wIn rows[i]! i (wOut rows i) (1 <<< i) := by
  unfold wOut; rw [List.range_succ, List.foldl_append]; rfl
theorem wIn_len (row lamp : Nat) (m : List Nat) : ∀ j, (wIn row lamp m j).length = m.length + j
  | 0 => rfl
  | j + 1 => by rw [wIn_succ, wStep, List.length_append, wIn_len row lamp m j]; rfl
theorem wOut_len (rows : List Nat) : ∀ i, (wOut rows i).length = 1 <<< i
  | 0 => rfl
  | i + 1 => by rw [wOut_succ, wIn_len, wOut_len rows i, Nat.shiftLeft_succ]; omega
noncomputable def waysS (rows : List Nat) : Nat := (wOut rows 6)[63]!

section
variable {W : Wd} {n : Nat}
set_option maxRecDepth 100000
set_option maxHeartbeats 4000000 in
theorem f_ways (hW : W.ds = fns) {rows : List Nat} (hr : rows.length = 6) : Fun W (n + 1) (fn 26) [Ns rows] (N (waysS rows)) :=
  Fun.of ["rows"] sc26 (fun A Xc env Y h₀ => by
    show Ex _ _ [("rows", Ns rows)] [] _
    refine Ex.assignO (v := Ns [1]) (fun X h C => EvN.list (vs := [N 1]) (by walk_at "m.args") (by simp)) rfl (by walk_at "m.erase") (by walk_at "m.off") ?_
    refine Ex.forK (xs := ["lamp"]) (rows := (List.range 6).map fun i => [.int (i : Nat)]) (fun i => ([("rows", Ns rows)], [("ways", Ns (wOut rows i))])) 6
      (fun X h C => EvIter.range1 C Ev.nat) rfl (ownAll (by dsimp only; decide +kernel)) (fun i r hi hrow => ?_) (.inl ⟨rfl, ?_⟩)
    · have hr' := range_row hi hrow
      subst hr'
      obtain ⟨v, hv⟩ : ∃ v, rows[i]? = some v := ⟨rows[i], List.getElem?_eq_getElem _⟩
      have hv' : rows[i]! = v := by rw [List.getElem!_eq_getElem?_getD, hv]; rfl
      have h64 : (1 : Nat) <<< i ≤ 32 := by rw [Nat.one_shiftLeft]; exact Nat.pow_le_pow_right (by decide) (by omega : i ≤ 5)
      have hlen := wOut_len rows i
      have hout := wOut_succ rows i
      rw [hv'] at hout
      refine ⟨fun x hx => by rw [List.mem_singleton.mp hx]; walk_at "m.off", _, by walk_at "m.bind", .inl ?_⟩
      refine Ex.forK (xs := ["rest"]) (rows := (List.range (1 <<< i)).map fun j => [.int (j : Nat)]) (fun j => ([("lamp", N i), ("rows", Ns rows)], [("ways", Ns (wIn v i (wOut rows i) j))])) (1 <<< i)
        (fun X h C => EvIter.range1 C (by walk_at "m.ev")) rfl (ownAll (by dsimp only; decide +kernel)) (fun j r hj hrow => ?_) (.inl ⟨by simp, ?_⟩)
      · have hr' := range_row hj hrow
        subst hr'
        refine ⟨fun x hx => by rw [List.mem_singleton.mp hx]; walk_at "m.off", _, by walk_at "m.bind", .inl ?_⟩
        have hl2 := wIn_len v i (wOut rows i) j
        have hin := wIn_succ v i (wOut rows i) j
        generalize hm : wIn v i (wOut rows i) j = m at hl2 hin ⊢
        have hjm : m[j]? = some m[j]! := by rw [List.getElem!_eq_getElem?_getD, List.getElem?_eq_getElem (by omega)]; rfl
        refine Ex.compSB (os := (List.range i).map fun o => if v &&& j &&& (1 <<< o) ≠ 0 then some (N m[j ^^^ (1 <<< o)]!) else none) (v := Ns (pairsS v i m j))
          (CompS.ofB (ρ' := [("rest", N j), ("lamp", N i), ("rows", Ns rows), ("ways", Ns m)]) _ (fun X h C => EvIter.rangeN C (by walk_at "m.ev")) (by walk_at "m.cap") (by walk_at "m.ok") (CompB.filter (by simp) fun a w o hw ho X' env' h' C' => ?_) (Nat.le_trans (List.length_filterMap_le _ _) (by rw [List.length_map, List.length_range]; omega)) (by walk_at "m.ok")) ?_ Ns_shal (by walk_at "m.erase") (by walk_at "m.off") ?_
        · obtain ⟨k, hk, rfl, rfl⟩ := get_map2 hw ho
          have hki : k < i := by
            have := (List.getElem?_eq_some_iff.mp hk)
            obtain ⟨h1, h2⟩ := this
            rw [List.getElem_range] at h2
            rw [List.length_range] at h1
            omega
          have hx : j ^^^ (1 <<< k) < m.length := by
            have h1 : j < 2 ^ i := by rw [← Nat.one_shiftLeft]; exact hj
            have h2 : 1 <<< k < 2 ^ i := by rw [Nat.one_shiftLeft]; exact Nat.pow_lt_pow_right (by decide) hki
            have := Nat.xor_lt_two_pow h1 h2
            rw [hlen, Nat.one_shiftLeft] at hl2
            omega
          have hmx : m[j ^^^ (1 <<< k)]? = some m[j ^^^ (1 <<< k)]! := by rw [List.getElem!_eq_getElem?_getD, List.getElem?_eq_getElem hx]; rfl
          refine ⟨EvB.cast (EvB.val C' (v := N (v &&& j &&& (1 <<< k))) (by walk_at "m.ev") Truth.nat) ?_, fun w hw => ?_⟩
          · by_cases hc : v &&& j &&& (1 <<< k) = 0 <;> simp [hc]
          · by_cases hc : v &&& j &&& (1 <<< k) ≠ 0
            · rw [if_pos hc] at hw
              cases hw
              walk_at "m.ev"
            · rw [if_neg hc] at hw
              cases hw
        · show _ = PV.list (List.map N (pairsS v i m j))
          unfold pairsS
          rw [List.filterMap_map, List.map_filterMap]
          refine congrArg (fun f => PV.list (List.filterMap f (List.range i))) ?_
          funext o
          simp only [Function.comp_def, id]
          split <;> rfl
        · refine Ex.append (v := N (((v >>> i) &&& 1) * m[j]! + (pairsS v i m j).sum)) (.inr ⟨fun X h C => Ev.bin C (Ev.bin C (by walk_at "m.ev") (by walk_at "m.ev") (Op2.mul_nat (.inl (Nat.lt_of_le_of_lt Nat.and_le_right (by decide))))) (Ev.callB C (by walk_at "m.args") Op.sum) Op2.add_nat, rfl⟩) .hit (by simp; omega) ?_
          show Ex _ _ _ _ (.next [("lamp", N i), ("rows", Ns rows)] [("ways", Ns (wIn v i (wOut rows i) (j + 1)))])
          rw [hin]
          unfold wStep
          rw [Ns_snoc]
          exact Ex.done (by walk_at "m.sub")
      · show Ex _ _ _ _ (.next [("rows", Ns rows)] [("ways", Ns (wOut rows (i + 1)))])
        rw [hout]
        exact Ex.done (by walk_at "m.sub")
    · have h63 : (wOut rows 6)[63]? = some (waysS rows) := by
        have := wOut_len rows 6
        have h2 : (1 : Nat) <<< 6 = 64 := rfl
        unfold waysS
        rw [List.getElem!_eq_getElem?_getD, List.getElem?_eq_getElem (by omega)]; rfl
      show Ex _ _ [("rows", Ns rows)] [("ways", Ns (wOut rows 6))] (.ret (N (waysS rows)))
      generalize waysS rows = z at h63 ⊢
      generalize wOut rows 6 = m at h63 ⊢
      exact Ex.ret fun X h C => Ev.sub C (by walk_at "m.ev") Ev.nat (Op2.sub_Ns h63)) (by intro pm code doc cvs h; obtain ⟨a, rfl⟩ := len1 h; rfl) (by decide +kernel) rfl
end
end
section
open PySem PySem.Calls PyProof.Rows
theorem Op2.sub_nat {W : Wd} {n x y : Nat} (h : y ≤ x) : Op2 W n (binaryOp .Sub) (.int (x : Nat)) (.int (y : Nat)) (.int ((x - y : Nat) : Int)) := by
  have := @Op2.sub_int W n x y
  rwa [← Int.natCast_sub h] at this
end
local macro_rules | `(tactic| walk_at "m.op") => `(tactic| (with_reducible refine' Op2.sub_nat ?_ <;> walk_at "m.lt"))
section
open PySem PySem.Calls PyProof.Rows
theorem iadd_nat {W : Wd} {n a b : Nat} : Op2 W n (inplaceOp .Add) (N a) (N b) (N (a + b)) := by
  have := @iadd_int2 W n a b
  rwa [← Int.natCast_add] at this
theorem Ex.augNs {F : Fp} {ρ ow ow' : List (Str × PV)} {r : R} {rest : List Stmt} {x : Str} {px tpos pos : Pos} {i e : Expr} {L : List Nat} {k a b : Nat} (hi : E1 F (ρ ++ ow) i (N k)) (he : E1 F (ρ ++ ow) e (N b)) (hu : L[k]? = some a)
    (rp : Repl x (Ns L) (Ns (L.set k (a + b))) ow ow') (hl : L.length ≤ 1000) (hr : Ex F rest ρ ow' r) (hd : (x == ("__debug__" : Str)) = false := by decide +kernel) (hcd : (x == ("__classdict__" : Str)) = false := by decide +kernel)
    (ha : ∀ ov iv new, augStore i ov iv new = (do holding [new, ov, iv] (setItem ov iv new); release [new, ov, iv] []; pure .next) := by intro _ _ _; rfl) :
    Ex F (.AugAssign (.Subscript (.Name x px) i tpos) .Add e pos :: rest) ρ ow r := by
  have e1 : Ns (L.set k (a + b)) = .list ((L.map N).set k (N (a + b))) := by show PV.list _ = _; rw [List.map_set]
  rw [e1] at rp
  exact Ex.augSub hi he (by rw [List.getElem?_map, hu]; rfl) iadd_nat rfl rfl rfl rp (by simp; omega) hr hd hcd ha

/-! the net -/
noncomputable def netStep (roads hi : Nat) (R : List Nat) (low : Nat) : List Nat :=
  let road := (roads >>> (hi * (hi - 1) / 2 + low)) &&& 1
  let R1 := R.set low (R[low]! + road <<< hi)
  R1.set hi (R1[hi]! + road <<< low)
noncomputable def netIn (roads hi : Nat) (R : List Nat) (j : Nat) : List Nat := (List.range j).foldl (netStep roads hi) R
noncomputable def netOut (roads heard i : Nat) : List Nat := (List.range i).foldl (fun R hi => netIn roads hi R hi) ((List.range 6).map fun l => ((heard >>> l) &&& 1) <<< l)
noncomputable def netS (roads heard : Nat) : List Nat := netOut roads heard 6
theorem netIn_succ (roads hi : Nat) (R : List Nat) (j : Nat) : netIn roads hi R (j + 1) = netStep roads hi (netIn roads hi R j) j := by
  unfold netIn; rw [List.range_succ, List.foldl_append]; rfl
theorem netOut_succ (roads heard i : Nat) : netOut roads heard (i + 1) = netIn roads i (netOut roads heard i) i := by
  unfold netOut; rw [@List.range_succ i, List.foldl_append]; rfl
theorem netIn_len (roads hi : Nat) (R : List Nat) : ∀ j, (netIn roads hi R j).length = R.length
  | 0 => rfl
  | j + 1 => by rw [netIn_succ, netStep]; simp [netIn_len roads hi R j]
theorem netOut_len (roads heard : Nat) : ∀ i, (netOut roads heard i).length = 6
  | 0 => by simp [netOut]
  | i + 1 => by rw [netOut_succ, netIn_len, netOut_len roads heard i]
theorem get! {l : List Nat} {i : Nat} (h : i < l.length) : l[i]? = some l[i]! := by rw [List.getElem!_eq_getElem?_getD, List.getElem?_eq_getElem h]; rfl

section
variable {W : Wd} {n : Nat}
set_option maxRecDepth 100000
set_option maxHeartbeats 4000000 in
theorem f_net (hW : W.ds = fns) {roads heard : Nat} : Fun W (n + 1) (fn 18) [N roads, N heard] (Ns (netS roads heard)) :=
  Fun.of ["roads", "heard"] sc18 (fun A Xc env Y h₀ => by
    show Ex _ _ [("roads", N roads), ("heard", N heard)] [] _
    refine Ex.compOB (os := ((List.range 6).map fun l => N (((heard >>> l) &&& 1) <<< l)).map some) (v := Ns (netOut roads heard 0))
      (CompS.ofB (ρ' := [("heard", N heard)]) _ (fun X h C => EvIter.rangeN C (by walk_at "m.ev")) (by walk_at "m.cap") (by walk_at "m.ok") (CompB.map (by simp) fun j v w hv hw X' env' h' C' => ?_) (by simp) (by walk_at "m.ok")) ?_ Ns_shal (by walk_at "m.erase") (by walk_at "m.off") ?_
    · obtain ⟨k, hk, rfl, rfl⟩ := get_map2 hv hw
      have hk6 : k < 6 := by
        obtain ⟨h1, h2⟩ := List.getElem?_eq_some_iff.mp hk
        rw [List.getElem_range] at h2
        rw [List.length_range] at h1
        omega
      have hb : (heard >>> k) &&& 1 < 2 ^ 1000 := Nat.lt_of_le_of_lt Nat.and_le_right (by decide)
      refine Ev.bin C' (by walk_at "m.ev") (by walk_at "m.ev") (Op2.shl_nat (by omega) hb)
    · rw [fm_some]
      show _ = PV.list (List.map N _)
      unfold netOut
      simp [Function.comp_def]
    refine Ex.forK (xs := ["high"]) (rows := (List.range 6).map fun i => [.int (i : Nat)]) (fun i => ([("roads", N roads), ("heard", N heard)], [("rows", Ns (netOut roads heard i))])) 6
      (fun X h C => EvIter.range1 C Ev.nat) rfl (ownAll (by dsimp only; decide +kernel)) (fun i r hi hrow => ?_) (.inl ⟨rfl, ?_⟩)
    · have hr' := range_row hi hrow
      subst hr'
      have hlen := netOut_len roads heard i
      have hout := netOut_succ roads heard i
      refine ⟨fun x hx => by rw [List.mem_singleton.mp hx]; walk_at "m.off", _, by walk_at "m.bind", .inl ?_⟩
      refine Ex.forK (xs := ["low"]) (rows := (List.range i).map fun j => [.int (j : Nat)]) (fun j => ([("high", N i), ("roads", N roads), ("heard", N heard)], [("rows", Ns (netIn roads i (netOut roads heard i) j))])) i
        (fun X h C => EvIter.range1 C (by walk_at "m.ev")) rfl (ownAll (by dsimp only; decide +kernel)) (fun j r hj hrow => ?_) (.inl ⟨by simp, ?_⟩)
      · have hr' := range_row hj hrow
        subst hr'
        refine ⟨fun x hx => by rw [List.mem_singleton.mp hx]; walk_at "m.off", _, by walk_at "m.bind", .inl ?_⟩
        have hl2 := netIn_len roads i (netOut roads heard i) j
        have hin := netIn_succ roads i (netOut roads heard i) j
        generalize hm : netIn roads i (netOut roads heard i) j = m at hl2 hin ⊢
        refine Ex.assign (v := N ((roads >>> (i * (i - 1) / 2 + j)) &&& 1)) (by walk_at "m.e1") (by walk_at "m.erase") (by walk_at "m.off") ?_
        generalize hroad : (roads >>> (i * (i - 1) / 2 + j)) &&& 1 = road at *
        have hr1 : road ≤ 1 := by rw [← hroad]; exact Nat.and_le_right
        have hj1 : m[j]? = some m[j]! := get! (by omega)
        have hpow : road < 2 ^ 1000 := Nat.lt_of_le_of_lt hr1 (by decide)
        refine Ex.augNs (k := j) (b := road <<< i) (by walk_at "m.e1") (fun X h C => Ev.bin C (by walk_at "m.ev") (by walk_at "m.ev") (Op2.shl_nat (by omega) hpow)) hj1 .hit (by omega) ?_
        generalize hm1 : m.set j (m[j]! + road <<< i) = m1 at *
        have hi1 : m1[i]? = some m1[i]! := get! (by rw [← hm1, List.length_set]; omega)
        refine Ex.augNs (k := i) (b := road <<< j) (by walk_at "m.e1") (fun X h C => Ev.bin C (by walk_at "m.ev") (by walk_at "m.ev") (Op2.shl_nat (by omega) hpow)) hi1 .hit (by rw [← hm1, List.length_set]; omega) ?_
        show Ex _ _ _ _ (.next [("high", N i), ("roads", N roads), ("heard", N heard)] [("rows", Ns (netIn roads i (netOut roads heard i) (j + 1)))])
        rw [hin]
        unfold netStep
        dsimp only
        rw [hroad, hm1]
        exact Ex.done (by walk_at "m.sub")
      · show Ex _ _ _ _ (.next [("roads", N roads), ("heard", N heard)] [("rows", Ns (netOut roads heard (i + 1)))])
        rw [hout]
        exact Ex.done (by walk_at "m.sub")
    · show Ex _ _ _ _ (.ret (Ns (netOut roads heard 6)))
      exact Ex.ret (by walk_at "m.e1")) (by intro pm code doc cvs h; obtain ⟨a, b, rfl⟩ := len2 h; rfl) (by decide +kernel) rfl
end
end
section
open PySem PySem.Calls PyProof.Rows
theorem RepAll.take {X : AS} {h : Heap} {vs : List Value} {l : List PV} (k : Nat) (r : RepAll X h vs l) : RepAll X h (vs.take k) (l.take k) := by
  refine RepAll.ind (M := fun vs l => ∀ k, RepAll X h (vs.take k) (l.take k)) (fun k => by rw [List.take_nil, List.take_nil]; exact .nil) (fun a _ ih k => ?_) r k
  cases k with
  | zero => exact .nil
  | succ k => exact .cons a (ih k)
theorem RepAll.reverse {X : AS} {h : Heap} {vs : List Value} {l : List PV} (r : RepAll X h vs l) : RepAll X h vs.reverse l.reverse :=
  RepAll.ind (M := fun vs l => RepAll X h vs.reverse l.reverse) .nil (fun a _ ih => by rw [List.reverse_cons, List.reverse_cons]; exact ih.append (.cons a .nil)) r
set_option maxRecDepth 20000 in
theorem pick_rev : ∀ vs : List Value, vs.length ≤ 6 → slicePick vs.toArray none none (some (-1)) = vs.reverse.toArray
  | [], _ => by
    have h1 : slicePick #[] none none (some (-1)) = ((sliceRange (-1) (-1) (-1)).filterMap (#[][·]?)).toArray := rfl
    have h2 : sliceRange (-1) (-1) (-1) = [] := by decide +kernel
    show slicePick #[] none none (some (-1)) = _
    rw [h1, h2]
    rfl
  | [a], _ => by
    have h1 : slicePick #[a] none none (some (-1)) = ((sliceRange 0 (-1) (-1)).filterMap (#[a][·]?)).toArray := rfl
    have h2 : sliceRange 0 (-1) (-1) = [0] := by decide +kernel
    show slicePick #[a] none none (some (-1)) = _
    rw [h1, h2]
    rfl
  | [a, b], _ => by
    have h1 : slicePick #[a, b] none none (some (-1)) = ((sliceRange 1 (-1) (-1)).filterMap (#[a, b][·]?)).toArray := rfl
    have h2 : sliceRange 1 (-1) (-1) = [1, 0] := by decide +kernel
    show slicePick #[a, b] none none (some (-1)) = _
    rw [h1, h2]
    rfl
  | [a, b, c], _ => by
    have h1 : slicePick #[a, b, c] none none (some (-1)) = ((sliceRange 2 (-1) (-1)).filterMap (#[a, b, c][·]?)).toArray := rfl
    have h2 : sliceRange 2 (-1) (-1) = [2, 1, 0] := by decide +kernel
    show slicePick #[a, b, c] none none (some (-1)) = _
    rw [h1, h2]
    rfl
  | [a, b, c, d], _ => by
    have h1 : slicePick #[a, b, c, d] none none (some (-1)) = ((sliceRange 3 (-1) (-1)).filterMap (#[a, b, c, d][·]?)).toArray := rfl
    have h2 : sliceRange 3 (-1) (-1) = [3, 2, 1, 0] := by decide +kernel
    show slicePick #[a, b, c, d] none none (some (-1)) = _
    rw [h1, h2]
    rfl
  | [a, b, c, d, e], _ => by
    have h1 : slicePick #[a, b, c, d, e] none none (some (-1)) = ((sliceRange 4 (-1) (-1)).filterMap (#[a, b, c, d, e][·]?)).toArray := rfl
    have h2 : sliceRange 4 (-1) (-1) = [4, 3, 2, 1, 0] := by decide +kernel
    show slicePick #[a, b, c, d, e] none none (some (-1)) = _
    rw [h1, h2]
    rfl
  | [a, b, c, d, e, f], _ => by
    have h1 : slicePick #[a, b, c, d, e, f] none none (some (-1)) = ((sliceRange 5 (-1) (-1)).filterMap (#[a, b, c, d, e, f][·]?)).toArray := rfl
    have h2 : sliceRange 5 (-1) (-1) = [5, 4, 3, 2, 1, 0] := by decide +kernel
    show slicePick #[a, b, c, d, e, f] none none (some (-1)) = _
    rw [h1, h2]
    rfl
  | _ :: _ :: _ :: _ :: _ :: _ :: _ :: _, h => by simp at h

section
variable {W : Wd} {A : Around} {n : Nat} {X : AS} {env : Env} {h : Heap} {names : List (Str × NameKind)} {ρ : List (Str × PV)}
theorem EvN.sliceTo {value e : Expr} {p pos : Pos} {l : List PV} {k : Nat} (hv : Ev W A X env h value (.list l)) (he : Ev W A X env h e (N k)) (hl : l.length ≤ 100000) (ht : ∀ o r, letTemporaryGo value o r = pure () := by intro _ _; rfl) :
    EvN W A X env h (.Subscript value (.Slice none (some e) none p) pos) (.list (l.take k)) := fun s Q E kk q => by
  refine wpAny_Subscript_list_slice (hv s _ E kk fun co h₁ tk₁ k₁ ro => wpAny_evalPart_none (wpAny_evalPart_some (he _ _ E (kk.trans k₁) fun ck h₂ tk₂ k₂ rk => ?_))) ht
  obtain ⟨tt, rfl⟩ := Rep.intI rk
  obtain ⟨a, rfl, vs, m, na, ia, r⟩ := Rep.listI ro
  have hlen := r.length
  have k12 := k₁.trans k₂
  refine ⟨a, vs.toArray, none, some k, rfl, PySem.IsL.isList (n := m) (k₂.le _ _ ia), by rw [List.size_toArray, sizeLine_eq]; omega, .none, .int _ _, ?_⟩
  rw [slicePick_upto']
  have hp : Le h₂ ((h₂.push { cls := .type "slice", data := .fields #[Value.none, .int k tt, .none] }).push { cls := .type "list", data := .seq (vs.take k).toArray }) := (Le.push _ _).trans (Le.push _ _)
  refine q (h₂.objs.size + 1) _ _ (k12.more hp) (fun b al => Nat.lt_succ_of_lt (lt_of_alive k12.le b al)) (.list (n := 0) (vs := vs.take k) ?_ ((r.mono (k₂.le.trans hp)).take k))
  have e1 := Heap.get?_push_size (h₂.push { cls := .type "slice", data := .fields #[Value.none, .int k tt, .none] }) (o := { cls := .type "list", data := .seq (vs.take k).toArray }) rfl
  rw [Heap.size_push] at e1
  exact e1
theorem EvN.sliceToF {value e : Expr} {p pos : Pos} {l : List PV} {k : Nat} (hv : Ev W A X env h value (.lst l)) (he : Ev W A X env h e (N k)) (hl : l.length ≤ 100000) (ht : ∀ o r, letTemporaryGo value o r = pure () := by intro _ _; rfl) :
    EvN W A X env h (.Subscript value (.Slice none (some e) none p) pos) (.list (l.take k)) := fun s Q E kk q => by
  refine wpAny_Subscript_list_slice (hv s _ E kk fun co h₁ tk₁ k₁ ro => wpAny_evalPart_none (wpAny_evalPart_some (he _ _ E (kk.trans k₁) fun ck h₂ tk₂ k₂ rk => ?_))) ht
  obtain ⟨tt, rfl⟩ := Rep.intI rk
  obtain ⟨a, rfl, vs, na, ia, r⟩ := Rep.lstI ro
  have hlen := r.length
  have k12 := k₁.trans k₂
  refine ⟨a, vs.toArray, none, some k, rfl, (let ⟨o, i, c⟩ := ia; ⟨o, k₂.le _ _ i, c⟩), by rw [List.size_toArray, sizeLine_eq]; omega, .none, .int _ _, ?_⟩
  rw [slicePick_upto']
  have hp : Le h₂ ((h₂.push { cls := .type "slice", data := .fields #[Value.none, .int k tt, .none] }).push { cls := .type "list", data := .seq (vs.take k).toArray }) := (Le.push _ _).trans (Le.push _ _)
  refine q (h₂.objs.size + 1) _ _ (k12.more hp) (fun b al => Nat.lt_succ_of_lt (lt_of_alive k12.le b al)) (.list (n := 0) (vs := vs.take k) ?_ ((r.mono (k₂.le.trans hp)).take k))
  have e1 := Heap.get?_push_size (h₂.push { cls := .type "slice", data := .fields #[Value.none, .int k tt, .none] }) (o := { cls := .type "list", data := .seq (vs.take k).toArray }) rfl
  rw [Heap.size_push] at e1
  exact e1
theorem EvN.sliceAll {value : Expr} {p pos : Pos} {l : List PV} (hv : Ev W A X env h value (.list l)) (hl : l.length ≤ 100000) (ht : ∀ o r, letTemporaryGo value o r = pure () := by intro _ _; rfl) :
    EvN W A X env h (.Subscript value (.Slice none none none p) pos) (.list l) := fun s Q E kk q => by
  refine wpAny_Subscript_list_slice (hv s _ E kk fun co h₁ tk₁ k₁ ro => wpAny_evalPart_none (wpAny_evalPart_none ?_)) ht
  obtain ⟨a, rfl, vs, m, na, ia, r⟩ := Rep.listI ro
  have hlen := r.length
  refine ⟨a, vs.toArray, none, none, rfl, PySem.IsL.isList (n := m) ia, by rw [List.size_toArray, sizeLine_eq]; omega, .none, .none, ?_⟩
  rw [slicePick_all]
  have hp : Le h₁ ((h₁.push { cls := .type "slice", data := .fields #[Value.none, Value.none, .none] }).push { cls := .type "list", data := .seq vs.toArray }) := (Le.push _ _).trans (Le.push _ _)
  refine q (h₁.objs.size + 1) _ _ (k₁.more hp) (fun b al => Nat.lt_succ_of_lt (lt_of_alive k₁.le b al)) (.list (n := 0) (vs := vs) ?_ (r.mono hp))
  have e1 := Heap.get?_push_size (h₁.push { cls := .type "slice", data := .fields #[Value.none, Value.none, .none] }) (o := { cls := .type "list", data := .seq vs.toArray }) rfl
  rw [Heap.size_push] at e1
  exact e1
theorem EvN.sliceRev {value st : Expr} {p pos : Pos} {l : List PV} (hv : Ev W A X env h value (.list l)) (hs : Ev W A X env h st (.int (-1))) (hl : l.length ≤ 6) (ht : ∀ o r, letTemporaryGo value o r = pure () := by intro _ _; rfl) :
    EvN W A X env h (.Subscript value (.Slice none none (some st) p) pos) (.list l.reverse) := fun s Q E kk q => by
  refine wpAny_Subscript_Slice_step (T := "list") list_getitem_lookup (hv s _ E kk fun co h₁ tk₁ k₁ ro => wpAny_Slice (wpAny_evalPart_none (wpAny_evalPart_none (wpAny_evalPart_some (hs _ _ E (kk.trans k₁) fun ck h₂ tk₂ k₂ rk => ?_))))) ht
  obtain ⟨tt, rfl⟩ := Rep.intI rk
  obtain ⟨a, rfl, vs, m, na, ia, r⟩ := Rep.listI ro
  have hlen := r.length
  have k12 := k₁.trans k₂
  have ia₂ := Le.push h₂ { cls := .type "slice", data := .fields #[Value.none, Value.none, .int (-1) tt] } _ _ (k₂.le _ _ ia)
  refine ⟨⟨_, ia₂, rfl⟩, wpAny_getItem_list_slice (lo := none) (hi := none) (st := some (-1)) (PySem.IsL.isList (n := m) ia₂) ⟨_, Heap.get?_push_size _ rfl, rfl, rfl⟩ .none .none (.int _ _) (by decide) ?_ (by rw [List.size_toArray, sizeLine_eq]; omega)⟩
  rw [pick_rev vs (by omega)]
  have hp : Le h₂ ((h₂.push { cls := .type "slice", data := .fields #[Value.none, Value.none, .int (-1) tt] }).push { cls := .type "list", data := .seq vs.reverse.toArray }) := (Le.push _ _).trans (Le.push _ _)
  have hsz := Heap.size_push h₂ { cls := .type "slice", data := .fields #[Value.none, Value.none, .int (-1) tt] }
  refine q _ _ _ (k12.more hp) (fun b al => ?_) (.list (n := 0) (vs := vs.reverse) (Heap.get?_push_size _ rfl) (r.mono (k₂.le.trans hp)).reverse)
  have := lt_of_alive k12.le b al
  show b < (h₂.push _).objs.size
  rw [hsz]
  exact Nat.lt_succ_of_lt this
end
end
section
open PySem PySem.Calls PyProof.Rows
noncomputable def numStep (R : List Nat) (p : Int × Nat) : List Nat := R.set (p.2 % 10) (R[p.2 % 10]! + (p.1 % 1000000000).toNat)
noncomputable def num0 : List Nat := [18085, 429, 4921245, 787, 60000, 10007, 20000, 50700, 60002, 42]
noncomputable def numS (ns : List Int) (j : Nat) : List Nat := ((ns.take 60).zipIdx.take j).foldl numStep num0
theorem numS_len (ns : List Int) (j : Nat) : (numS ns j).length = 10 := by
  have gen : ∀ (l : List (Int × Nat)) (R : List Nat), R.length = 10 → (l.foldl numStep R).length = 10 := by
    intro l
    induction l with
    | nil => intro R h; exact h
    | cons p r ih => intro R h; exact ih _ (by rw [numStep, List.length_set]; exact h)
  exact gen _ _ rfl
theorem numS_zero (ns : List Int) : numS ns 0 = num0 := by unfold numS; rw [List.take_zero]; rfl
theorem numS_succ {ns : List Int} {j : Nat} {p : Int × Nat} (h : ((ns.take 60).zipIdx)[j]? = some p) : numS ns (j + 1) = numStep (numS ns j) p := by
  unfold numS
  rw [List.take_add_one, h, List.foldl_append]
  rfl
theorem Op2.mod_toNat {W : Wd} {n : Nat} {a : Int} : Op2 W n (binaryOp .Mod) (.int a) (N 1000000000) (N (a % 1000000000).toNat) := by
  have := @Op2.mod_int W n a 1000000000 (by decide)
  rwa [show a % 1000000000 = ((a % 1000000000).toNat : Nat) by omega] at this

theorem EvIter.rows {W : Wd} {A : Around} {X : AS} {env : Env} {h : Heap} {iter target : Expr} {xs : List Str} {r r' : List (List PV)} (a : EvIter W A X env h iter target xs r) (e : r = r') : EvIter W A X env h iter target xs r' := e ▸ a
section
variable {W : Wd} {n : Nat}
set_option maxRecDepth 100000
set_option maxHeartbeats 4000000 in
theorem f_numbers (hW : W.ds = fns) {ns : List Int} (hl : ns.length ≤ 100000) : Fun W (n + 1) (fn 17) [.lst (ns.map .int)] (Ns (numS ns 60)) :=
  Fun.of ["script"] sc17 (fun A Xc env Y h₀ => by
    show Ex _ _ [("script", .lst (ns.map .int))] [] _
    refine Ex.assignO (v := Ns num0) (fun X h C => EvN.list (vs := num0.map N) (by walk_at "m.args") (by rw [List.length_map]; decide)) Ns_shal (by walk_at "m.erase") (by walk_at "m.off") ?_
    have hrows : ((ns.map PV.int).take 60).zipIdx.map (fun (v, i) => ([.int (i : Nat), v] : List PV)) = (ns.take 60).zipIdx.map fun p => [N p.2, .int p.1] := by
      rw [← List.map_take, List.zipIdx_map, List.map_map]
      rfl
    refine Ex.forK (xs := ["place", "number"]) (rows := (ns.take 60).zipIdx.map fun p => [N p.2, .int p.1]) (fun i => ([("script", .lst (ns.map .int))], [("numbers", Ns (numS ns i))])) (ns.take 60).zipIdx.length
      (fun X h C => by
        refine EvIter.rows ?_ hrows
        exact EvIter.enum C ((EvN.sliceToF (by walk_at "m.ev") Ev.nat (by rw [List.length_map]; omega)).ev C)) (by rw [numS_zero]) (ownAll (by dsimp only; decide +kernel)) (fun i r hi hrow => ?_) (.inl ⟨by simp, ?_⟩)
    · obtain ⟨p, hp, rfl⟩ := get_map hrow
      have hlen := numS_len ns i
      have hs := numS_succ hp
      refine ⟨fun x hx => by rcases List.mem_cons.mp hx with rfl | hx; walk_at "m.off"; rw [List.mem_singleton.mp hx]; walk_at "m.off", _, by walk_at "m.bind", .inl ?_⟩
      generalize numS ns i = m at hlen hs ⊢
      have hm : m[p.2 % 10]? = some m[p.2 % 10]! := get! (by omega)
      refine Ex.augNs (k := p.2 % 10) (b := (p.1 % 1000000000).toNat) (by walk_at "m.e1") (fun X h C => Ev.bin C (by walk_at "m.ev") (by walk_at "m.ev") Op2.mod_toNat) hm .hit (by omega) ?_
      show Ex _ _ _ _ (.next [("script", .lst (ns.map .int))] [("numbers", Ns (numS ns (i + 1)))])
      rw [hs]
      exact Ex.done (by walk_at "m.sub")
    · have e : numS ns (ns.take 60).zipIdx.length = numS ns 60 := by
        have h60 : (ns.take 60).zipIdx.length ≤ 60 := by rw [List.length_zipIdx, List.length_take]; omega
        unfold numS
        rw [List.take_of_length_le (Nat.le_refl _), List.take_of_length_le h60]
      show Ex _ _ _ [("numbers", Ns (numS ns (ns.take 60).zipIdx.length))] _
      rw [e]
      exact Ex.ret (by walk_at "m.e1")) (by intro pm code doc cvs h; obtain ⟨a, rfl⟩ := len1 h; rfl) (by decide +kernel) rfl
end
end
section
open PySem PySem.Calls PyProof.Rows
section
variable {W : Wd} {n : Nat} {P : Nat → Prop}
theorem iadd_strP (hP : ∀ t, W.lo ≤ t → P t) {a b : Str} (h : a.length + b.length ≤ 10000000) : Op2 W n (inplaceOp .Add) (.strP P a) (.strP P b) (.strP P (a ++ b)) := fun A X s ca cb Q E O ra rb p => by
  obtain ⟨t, rfl, pt⟩ := Rep.strPI ra
  obtain ⟨u, rfl, pu⟩ := Rep.strPI rb
  refine PySem.P.iadd_str ?_
  by_cases hx : (a.length == 0) = true
  · rw [if_pos hx]
    exact p.here O.lo (by rw [Str.append_left_empty hx]; exact .strP _ _ pu)
  · rw [if_neg hx]
    by_cases hy : (b.length == 0) = true
    · rw [if_pos hy]
      exact p.here O.lo (by rw [Str.append_right_empty hy]; exact .strP _ _ pt)
    · rw [if_neg hy]
      exact ⟨by rw [Str.length_append, sizeLine_eq]; omega, p.at1 O.lo (.strP _ _ (hP _ O.lo))⟩
theorem Op.stripP (hP : ∀ t, W.lo ≤ t → P t) {a : Str} (h : a.length ≤ 10000000) : Op W n (fun cvs => call (.builtin "str.strip") cvs) [.strP P a] (.strP P (Txt.strip a)) := fun A X s cvs Q E O r p => by
  obtain ⟨_, _, rfl, ra, rr⟩ := RepAll.consI r
  obtain rfl := RepAll.nilI rr
  obtain ⟨t, rfl, pt⟩ := Rep.strPI ra
  refine call_gives PySem.F.slot_str_strip (typeIs_str _ _ _) PySem.F.entry_str_strip (PySem.F.args_str_strip_1 _) (gives_str_strip a t) ?_
  have hs : Txt.strip a = if stripSame Unicode.isSpace true true a then a else stripped Unicode.isSpace true true a := rfl
  by_cases hc : stripSame Unicode.isSpace true true a = true
  · rw [if_pos hc] at hs ⊢
    exact p.here O.lo (by rw [hs]; exact .strP _ _ pt)
  · rw [if_neg hc] at hs ⊢
    exact ⟨fits_stripped _ _ _ (by rw [sizeLine_eq]; omega), p.at1 O.lo (by rw [hs]; exact .strP _ _ (hP _ O.lo))⟩
theorem meth_strip : Meth "str" "strip" "str.strip" := ⟨PySem.F.plainAttrs_str, PySem.F.slot_str_strip, PySem.F.type_str_strip⟩
theorem IsOf.strP {x : Str} : IsOf "str" (.strP P x) := fun X s cv r => by cases r; exact ⟨typeIs_str _ _ _, fun a e => nomatch e⟩
theorem Truth.strP {x : Str} (hx : x.length < 100000000) : Truth W n (.strP P x) ((x.length : Int) != 0) := fun A X s cv Q E O r q => Truth.str hx A X s cv Q E O r.unP q
theorem Op2.eq_strP {a b : Str} : Op2 W n (compareOp .Eq) (.strP P a) (.str b) (.bool (a == b)) := fun A X s ca cb Q E O ra rb p => Op2.eq_str A X s ca cb Q E O ra.unP rb p
end
end
section
open PySem PySem.Calls PyProof.Rows
noncomputable abbrev C1 (c : Nat) : Str := ⟨#[c]⟩
structure PSt where
  res : List Str
  part : Str
  esc : Bool
  quo : Bool
noncomputable def pStep (st : PSt) (c : Nat) : PSt :=
  if st.esc then ⟨st.res, st.part ++ C1 c, false, st.quo⟩
  else if st.quo then (if c = 92 then ⟨st.res, st.part, true, st.quo⟩ else ⟨st.res, st.part ++ C1 c, false, !(c == 34)⟩)
  else if c = 44 then ⟨st.res ++ [st.part], "", false, false⟩
  else ⟨st.res, st.part ++ C1 c, false, c == 34⟩
noncomputable def pRun (l : List Nat) : PSt := l.foldl pStep ⟨[], "", false, false⟩
noncomputable def pParse (l : List Nat) : List Str := ((if (pRun l).part.length = 0 then (pRun l).res else (pRun l).res ++ [(pRun l).part])).map Txt.strip
theorem pRun_succ {l : List Nat} {i c : Nat} (h : l[i]? = some c) : pRun (l.take (i + 1)) = pStep (pRun (l.take i)) c := by
  unfold pRun
  rw [List.take_add_one, h, List.foldl_append]
  rfl
theorem pRun_len (l : List Nat) : (pRun l).part.length ≤ l.length ∧ (pRun l).res.length ≤ l.length := by
  have gen : ∀ (l : List Nat) (st : PSt) (k : Nat), st.part.length ≤ k → st.res.length ≤ k → (l.foldl pStep st).part.length ≤ k + l.length ∧ (l.foldl pStep st).res.length ≤ k + l.length := by
    intro l
    induction l with
    | nil => intro st k h1 h2; exact ⟨by simpa using h1, by simpa using h2⟩
    | cons c r ih =>
      intro st k h1 h2
      have : (pStep st c).part.length ≤ k + 1 ∧ (pStep st c).res.length ≤ k + 1 := by
        have hc : (C1 c).length = 1 := rfl
        unfold pStep
        split
        · exact ⟨by rw [Str.length_append]; omega, by dsimp only; omega⟩
        · split
          · split
            · exact ⟨by dsimp only; omega, by dsimp only; omega⟩
            · exact ⟨by rw [Str.length_append]; omega, by dsimp only; omega⟩
          · split
            · exact ⟨Nat.zero_le _, by rw [List.length_append]; simp; omega⟩
            · exact ⟨by rw [Str.length_append]; omega, by dsimp only; omega⟩
      obtain ⟨a, b⟩ := ih _ (k + 1) this.1 this.2
      rw [List.foldl_cons, List.length_cons]
      omega
  have := gen l ⟨[], "", false, false⟩ 0 (Nat.zero_le _) (Nat.zero_le _)
  simpa [pRun] using this
end
section
open PySem PySem.Calls PyProof.Rows
theorem c1_eq {c k : Nat} {x : Str} (h : x = ⟨#[k]⟩) : (C1 c == x) = (c == k) := by
  subst h
  rw [Bool.eq_iff_iff]
  simp [C1]
theorem bs_eq {c : Nat} : (C1 c == ("\\" : Str)) = (c == 92) := c1_eq (by decide +kernel)
theorem qt_eq {c : Nat} : (C1 c == ("\"" : Str)) = (c == 34) := c1_eq (by decide +kernel)
theorem cm_eq {c : Nat} : (C1 c == ("," : Str)) = (c == 44) := c1_eq (by decide +kernel)
theorem pRun_res (l : List Nat) : ∀ x ∈ (pRun l).res, x.length ≤ l.length := by
  have gen : ∀ (l : List Nat) (st : PSt) (k : Nat), st.part.length ≤ k → (∀ x ∈ st.res, x.length ≤ k) → (l.foldl pStep st).part.length ≤ k + l.length ∧ ∀ x ∈ (l.foldl pStep st).res, x.length ≤ k + l.length := by
    intro l
    induction l with
    | nil => intro st k h1 h2; exact ⟨by simpa using h1, by simpa using h2⟩
    | cons c r ih =>
      intro st k h1 h2
      have : (pStep st c).part.length ≤ k + 1 ∧ ∀ x ∈ (pStep st c).res, x.length ≤ k + 1 := by
        have hc : (C1 c).length = 1 := rfl
        have h2' : ∀ x ∈ st.res, x.length ≤ k + 1 := fun x hx => Nat.le_succ_of_le (h2 x hx)
        unfold pStep
        split
        · exact ⟨by rw [Str.length_append]; omega, h2'⟩
        · split
          · split
            · exact ⟨by dsimp only; omega, h2'⟩
            · exact ⟨by rw [Str.length_append]; omega, h2'⟩
          · split
            · refine ⟨Nat.zero_le _, fun x hx => ?_⟩
              rcases List.mem_append.mp hx with hx | hx
              · exact h2' x hx
              · rw [List.mem_singleton.mp hx]; omega
            · exact ⟨by rw [Str.length_append]; omega, h2'⟩
      obtain ⟨a, b⟩ := ih _ (k + 1) this.1 this.2
      rw [List.foldl_cons, List.length_cons]
      exact ⟨by omega, fun x hx => by have := b x hx; omega⟩
  have := (gen l ⟨[], "", false, false⟩ 0 (Nat.zero_le _) (fun x hx => nomatch hx)).2
  simpa [pRun] using this
noncomputable abbrev pvS (lo : Nat) (x : Str) : PV := .strP (fun t => lo ≤ t) x
section
variable {W : Wd} {n : Nat}
noncomputable abbrev stP (lo : Nat) (s : Str) (st : PSt) : List (Str × PV) := [("quote", .bool st.quo), ("escape", .bool st.esc), ("part", pvS lo st.part), ("s", .str s)]
noncomputable abbrev owP (lo : Nat) (st : PSt) : List (Str × PV) := [("res", .list (st.res.map (pvS lo)))]
set_option maxRecDepth 100000
set_option maxHeartbeats 4000000 in
theorem f_parse (hW : W.ds = fns) {s : Str} (hs : s.cps.toList.length ≤ 900) : Fun W (n + 1) (fn 16) [.str s] (.list ((pParse s.cps.toList).map (pvS W.lo))) :=
  Fun.of ["s"] sc16 (fun A Xc env Y h₀ => by
    show Ex _ _ [("s", .str s)] [] _
    refine Ex.assignO (v := .list (([] : List Str).map (pvS W.lo))) (fun X h C => EvN.list EvArgs.nil (by simp)) rfl (by walk_at "m.erase") (by walk_at "m.off") ?_
    refine Ex.assign (v := pvS W.lo "") (fun X h C => Ev.strP fun t q => q) (by walk_at "m.erase") (by walk_at "m.off") ?_
    refine Ex.two (v := .bool false) (fun X h C => Ev.bool) (by walk_at "m.erase") (by walk_at "m.erase") (by walk_at "m.off") (by walk_at "m.off") ?_
    have hrl := fun i => pRun_len (s.cps.toList.take i)
    refine Ex.forK (xs := ["cur"]) (rows := s.cps.toList.map fun c => [pvS W.lo (C1 c)]) (fun i => (stP W.lo s (pRun (s.cps.toList.take i)), owP W.lo (pRun (s.cps.toList.take i)))) s.cps.toList.length
      (fun X h C => EvIter.strP C (by walk_at "m.ev")) rfl (ownAll (by dsimp only; decide +kernel)) (fun i r hi hrow => ?_) (.inl ⟨by simp, ?_⟩)
    · obtain ⟨c, hc, rfl⟩ := get_map hrow
      have hst := pRun_succ hc
      obtain ⟨hp1, hp2⟩ := hrl i
      have hti : (s.cps.toList.take i).length ≤ 900 := by rw [List.length_take]; omega
      refine ⟨fun x hx => by rw [List.mem_singleton.mp hx]; walk_at "m.off", _, by walk_at "m.bind", ?_⟩
      generalize pRun (s.cps.toList.take i) = st at hst hp1 hp2 ⊢
      rw [hst]
      obtain ⟨res, part, esc, quo⟩ := st
      have hpl : part.length + (C1 c).length ≤ 10000000 := by
        have : (C1 c).length = 1 := rfl
        dsimp only at hp1
        omega
      have hcur : Op2 W n (inplaceOp .Add) (pvS W.lo part) (pvS W.lo (C1 c)) (pvS W.lo (part ++ C1 c)) := iadd_strP (fun t q => q) hpl
      cases esc with
      | true =>
        rw [show pStep ⟨res, part, true, quo⟩ c = ⟨res, part ++ C1 c, false, quo⟩ from rfl]
        dsimp only [stP, owP]
        refine .inr (Ex.ite (c := true) (fun X h C => EvB.val C (by walk_at "m.ev") Truth.bool) (fun _ => ⟨_, ?_, Then.cont⟩) (fun q => nomatch q))
        refine Ex.aug (by walk_at "m.look") (by walk_at "m.e1") hcur (by walk_at "m.erase") (by walk_at "m.off") ?_
        refine Ex.assign (v := .bool false) (fun X h C => Ev.bool) (by walk_at "m.erase") (by walk_at "m.off") ?_
        exact Ex.weak (by walk_at "m.sub") Ex.cont
      | false =>
        cases quo with
        | true =>
          by_cases h92 : c = 92
          · rw [show pStep ⟨res, part, false, true⟩ c = ⟨res, part, true, true⟩ by simp [pStep, h92]]
            dsimp only [stP, owP]
            refine .inr (Ex.ite (c := false) (fun X h C => EvB.val C (by walk_at "m.ev") Truth.bool) (fun q => nomatch q) (fun _ => ⟨_, Ex.nil, Then.next ?_⟩))
            refine Ex.ite (c := true) (fun X h C => EvB.val C (by walk_at "m.ev") Truth.bool) (fun _ => ⟨_, ?_, Then.cont⟩) (fun q => nomatch q)
            refine Ex.ite (c := (C1 c == "\\")) (fun X h C => EvB.cmp C (Ev.name C (by walk_at "m.look")) Ev.str Op2.eq_strP) (fun _ => ⟨_, ?_, Then.cont⟩) (fun q => by rw [bs_eq, h92] at q; cases q)
            refine Ex.assign (v := .bool true) (fun X h C => Ev.bool) (by walk_at "m.erase") (by walk_at "m.off") ?_
            exact Ex.weak (by walk_at "m.sub") Ex.cont
          · rw [show pStep ⟨res, part, false, true⟩ c = ⟨res, part ++ C1 c, false, !(c == 34)⟩ by simp [pStep, h92]]
            dsimp only [stP, owP]
            refine .inr (Ex.ite (c := false) (fun X h C => EvB.val C (by walk_at "m.ev") Truth.bool) (fun q => nomatch q) (fun _ => ⟨_, Ex.nil, Then.next ?_⟩))
            refine Ex.ite (c := true) (fun X h C => EvB.val C (by walk_at "m.ev") Truth.bool) (fun _ => ⟨_, ?_, Then.cont⟩) (fun q => nomatch q)
            refine Ex.ite (c := (C1 c == "\\")) (fun X h C => EvB.cmp C (Ev.name C (by walk_at "m.look")) Ev.str Op2.eq_strP) (fun q => absurd (by rw [bs_eq] at q; simpa using q) h92) (fun _ => ⟨.next [("cur", pvS W.lo (C1 c)), ("quote", .bool (!(c == 34))), ("escape", .bool false), ("part", pvS W.lo part), ("s", .str s)] [("res", .list (res.map (pvS W.lo)))], ?_, Then.next ?_⟩)
            · refine Ex.ite (c := (C1 c == "\"")) (fun X h C => EvB.cmp C (Ev.name C (by walk_at "m.look")) Ev.str Op2.eq_strP) (fun q => ⟨.next [("cur", pvS W.lo (C1 c)), ("quote", .bool (!(c == 34))), ("escape", .bool false), ("part", pvS W.lo part), ("s", .str s)] [("res", .list (res.map (pvS W.lo)))], ?_, Then.next Ex.nil⟩) (fun q => ⟨_, Ex.nil, Then.next (Ex.done ?_)⟩)
              · rw [qt_eq] at q
                refine Ex.assign (v := .bool (!(c == 34))) (fun X h C => Ev.bool.cast (by rw [q]; rfl)) (by walk_at "m.erase") (by walk_at "m.off") ?_
                exact Ex.done (by walk_at "m.sub")
              · rw [qt_eq] at q
                rw [show (!(c == 34)) = true by rw [q]; rfl]
                walk_at "m.sub"
            · refine Ex.aug (by walk_at "m.look") (by walk_at "m.e1") hcur (by walk_at "m.erase") (by walk_at "m.off") ?_
              exact Ex.weak (ρ' := [("quote", .bool (!(c == 34))), ("escape", .bool false), ("part", pvS W.lo (part ++ C1 c)), ("s", .str s)]) (by walk_at "m.sub") Ex.cont
        | false =>
          by_cases h44 : c = 44
          · rw [show pStep ⟨res, part, false, false⟩ c = ⟨res ++ [part], "", false, false⟩ by simp [pStep, h44]]
            dsimp only [stP, owP]
            refine .inr (Ex.ite (c := false) (fun X h C => EvB.val C (by walk_at "m.ev") Truth.bool) (fun q => nomatch q) (fun _ => ⟨_, Ex.nil, Then.next ?_⟩))
            refine Ex.ite (c := false) (fun X h C => EvB.val C (by walk_at "m.ev") Truth.bool) (fun q => nomatch q) (fun _ => ⟨_, Ex.nil, Then.next ?_⟩)
            refine Ex.ite (c := (C1 c == ",")) (fun X h C => EvB.cmp C (Ev.name C (by walk_at "m.look")) Ev.str Op2.eq_strP) (fun _ => ⟨_, ?_, Then.cont⟩) (fun q => by rw [cm_eq, h44] at q; cases q)
            rw [show (res ++ [part]).map (pvS W.lo) = res.map (pvS W.lo) ++ [pvS W.lo part] by simp]
            refine Ex.append (v := pvS W.lo part) (l := res.map (pvS W.lo)) (.inl (by walk_at "m.e1")) .hit (by dsimp only at hp2; rw [List.length_map]; omega) ?_
            refine Ex.assign (v := pvS W.lo "") (fun X h C => Ev.strP fun t q => q) (by walk_at "m.erase") (by walk_at "m.off") ?_
            exact Ex.weak (ρ' := [("quote", .bool false), ("escape", .bool false), ("part", pvS W.lo ""), ("s", .str s)]) (by walk_at "m.sub") Ex.cont
          · rw [show pStep ⟨res, part, false, false⟩ c = ⟨res, part ++ C1 c, false, c == 34⟩ by simp [pStep, h44]]
            dsimp only [stP, owP]
            refine .inl (Ex.ite (c := false) (fun X h C => EvB.val C (by walk_at "m.ev") Truth.bool) (fun q => nomatch q) (fun _ => ⟨_, Ex.nil, Then.next ?_⟩))
            refine Ex.ite (c := false) (fun X h C => EvB.val C (by walk_at "m.ev") Truth.bool) (fun q => nomatch q) (fun _ => ⟨_, Ex.nil, Then.next ?_⟩)
            refine Ex.ite (c := (C1 c == ",")) (fun X h C => EvB.cmp C (Ev.name C (by walk_at "m.look")) Ev.str Op2.eq_strP) (fun q => absurd (by rw [cm_eq] at q; simpa using q) h44) (fun _ => ⟨_, Ex.nil, Then.next ?_⟩)
            refine Ex.ite (c := (C1 c == "\"")) (fun X h C => EvB.cmp C (Ev.name C (by walk_at "m.look")) Ev.str Op2.eq_strP) (fun q => ⟨.next [("cur", pvS W.lo (C1 c)), ("quote", .bool (c == 34)), ("escape", .bool false), ("part", pvS W.lo part), ("s", .str s)] [("res", .list (res.map (pvS W.lo)))], ?_, Then.next ?_⟩) (fun q => ⟨_, Ex.nil, Then.next ?_⟩)
            · rw [qt_eq] at q
              rw [q]
              refine Ex.assign (v := .bool true) (fun X h C => Ev.bool) (by walk_at "m.erase") (by walk_at "m.off") ?_
              exact Ex.done (by walk_at "m.sub")
            · refine Ex.aug (by walk_at "m.look") (by walk_at "m.e1") hcur (by walk_at "m.erase") (by walk_at "m.off") ?_
              exact Ex.done (by walk_at "m.sub")
            · rw [qt_eq] at q
              rw [q]
              refine Ex.aug (by walk_at "m.look") (by walk_at "m.e1") hcur (by walk_at "m.erase") (by walk_at "m.off") ?_
              exact Ex.done (by walk_at "m.sub")
    · show Ex _ _ (stP W.lo s (pRun (s.cps.toList.take s.cps.toList.length))) (owP W.lo (pRun (s.cps.toList.take s.cps.toList.length))) (.ret (.list (List.map (pvS W.lo) (pParse s.cps.toList))))
      rw [List.take_length]
      have hl1 := pRun_len s.cps.toList
      have hl2 := pRun_res s.cps.toList
      have hfin : pParse s.cps.toList = ((if (pRun s.cps.toList).part.length = 0 then (pRun s.cps.toList).res else (pRun s.cps.toList).res ++ [(pRun s.cps.toList).part])).map Txt.strip := rfl
      rw [hfin]
      generalize pRun s.cps.toList = st at hl1 hl2 ⊢
      obtain ⟨res, part, esc, quo⟩ := st
      dsimp only [stP, owP] at hl1 hl2 ⊢
      refine Ex.ite (c := ((part.length : Int) != 0)) (fun X h C => EvB.val C (by walk_at "m.ev") (Truth.strP (by omega))) (fun hc => ?_) (fun hc => ?_)
      · have hz : ¬ part.length = 0 := by intro q; rw [q] at hc; cases hc
        rw [if_neg hz]
        refine ⟨_, Ex.append (v := pvS W.lo part) (l := res.map (pvS W.lo)) (.inl (by walk_at "m.e1")) .hit (by rw [List.length_map]; omega) Ex.nil, Then.next ?_⟩
        rw [show res.map (pvS W.lo) ++ [pvS W.lo part] = (res ++ [part]).map (pvS W.lo) by simp]
        have hx : ∀ x ∈ res ++ [part], x.length ≤ 1000 := fun x hx => by
          rcases List.mem_append.mp hx with hx | hx
          · have := hl2 x hx; omega
          · rw [List.mem_singleton.mp hx]; omega
        have hL : (res ++ [part]).length ≤ 1000 := by rw [List.length_append]; simp; omega
        generalize res ++ [part] = L at hx hL ⊢
        refine Ex.ret fun X h C => (Ev.compB (ρ' := []) C (((L.map Txt.strip).map (pvS W.lo)).map some) (EvIter.list C (by walk_at "m.ev")) (by walk_at "m.cap") (by walk_at "m.ok") (CompB.map (by simp) fun j v w hv hw X' env' h' C' => ?_) (by rw [fm_some, List.length_map, List.length_map]; omega)).cast (by rw [fm_some])
        rw [List.map_map] at hw
        obtain ⟨a, ha, rfl, rfl⟩ := get_map2 hv hw
        exact Ev.meth0 C' (Ev.name C' (by walk_at "m.look")) (Op.stripP (fun t q => q) (Nat.le_trans (hx a (List.mem_of_getElem? ha)) (by decide))) meth_strip IsOf.strP
      · have hz : part.length = 0 := by
          by_cases q : part.length = 0
          · exact q
          · have : ((part.length : Int) != 0) = true := by simp; omega
            rw [this] at hc; cases hc
        rw [if_pos hz]
        refine ⟨_, Ex.nil, Then.next ?_⟩
        have hx : ∀ x ∈ res, x.length ≤ 1000 := fun x hx => by have := hl2 x hx; omega
        have hL : res.length ≤ 1000 := by omega
        refine Ex.ret fun X h C => (Ev.compB (ρ' := []) C (((res.map Txt.strip).map (pvS W.lo)).map some) (EvIter.list C (by walk_at "m.ev")) (by walk_at "m.cap") (by walk_at "m.ok") (CompB.map (by simp) fun j v w hv hw X' env' h' C' => ?_) (by rw [fm_some, List.length_map, List.length_map]; omega)).cast (by rw [fm_some])
        rw [List.map_map] at hw
        obtain ⟨a, ha, rfl, rfl⟩ := get_map2 hv hw
        exact Ev.meth0 C' (Ev.name C' (by walk_at "m.look")) (Op.stripP (fun t q => q) (Nat.le_trans (hx a (List.mem_of_getElem? ha)) (by decide))) meth_strip IsOf.strP) (by intro pm code doc cvs h; obtain ⟨a, rfl⟩ := len1 h; rfl) (by decide +kernel) rfl
end
end
section
open PySem PySem.Calls PyProof.Rows
/-! dicts of strs -/
noncomputable def put (d : List (Str × Str)) (k v : Str) : List (Str × Str) := if d.any (fun p => p.1 = k) then d.map (fun p => if p.1 = k then (p.1, v) else p) else d ++ [(k, v)]
theorem put_len (d : List (Str × Str)) (k v : Str) : (put d k v).length ≤ d.length + 1 := by
  unfold put
  split
  · rw [List.length_map]; omega
  · rw [List.length_append]; exact Nat.le_refl _

section
variable {prog : Program} {w : World} {P : Nat → Prop}
theorem DictRows.len {hf : Str → Int} {es : List DictEntry} {l : List (Str × Str)} (r : DictRows hf P es l) : es.length = l.length := by
  induction r with
  | nil => rfl
  | cons _ _ _ _ _ ih => rw [List.length_cons, List.length_cons, ih]
theorem DictRows.keys {es : List DictEntry} {l : List (Str × Str)} (r : DictRows (hashStr w) P es l) : ∀ e ∈ es, ∃ k, (PySem.strKind prog w).is k e.key = true ∧ e.hash = (PySem.strKind prog w).hash k := by
  induction r with
  | nil => intro e he; cases he
  | @cons e k v t u es l hk hp hh hv _ ih =>
    intro e' he
    rcases List.mem_cons.mp he with rfl | he
    · exact ⟨k, by rw [hk]; show (Value.str k t).isStr k = true; exact decide_eq_true rfl, hh⟩
    · exact ih e' he
theorem DictRows.idx {es : List DictEntry} {l : List (Str × Str)} (r : DictRows (hashStr w) P es l) (k : Str) : (es.findIdx? fun e => (PySem.strKind prog w).is k e.key) = l.findIdx? fun p => decide (p.1 = k) := by
  induction r with
  | nil => rfl
  | @cons e k' v t u es l hk hp hh hv _ ih =>
    have h1 : (PySem.strKind prog w).is k' e.key = true := by rw [hk]; exact decide_eq_true rfl
    have his : (PySem.strKind prog w).is k e.key = decide (k' = k) := by
      rw [KeyKind.is_eq_decide h1 k]
      by_cases q : k = k'
      · subst q; simp
      · rw [decide_eq_false q, decide_eq_false fun e => q e.symm]
    simp only [List.findIdx?_cons, his, ih]
theorem DictRows.modify {hf : Str → Int} {es : List DictEntry} {l : List (Str × Str)} (r : DictRows hf P es l) (nd : (l.map (·.1)).Nodup) {k : Str} {i : Nat} (hi : (l.findIdx? fun p => decide (p.1 = k)) = some i) (v : Str) (u : Tok) :
    DictRows hf P (es.modify i fun e => { e with val := .str v u }) (l.map fun p => if p.1 = k then (p.1, v) else p) := by
  induction r generalizing i with
  | nil => simp at hi
  | @cons e k' v' t u' es l hk hp hh hv r' ih =>
    rw [List.map_cons, List.nodup_cons] at nd
    rw [List.findIdx?_cons] at hi
    by_cases q : k' = k
    · subst q
      simp only [decide_true, if_true, Option.some.injEq] at hi
      subst hi
      have e1 : (l.map fun p => if p.1 = k' then (p.1, v) else p) = l := by
        have : ∀ p ∈ l, (fun p : Str × Str => if p.1 = k' then (p.1, v) else p) p = id p := fun p hp => by
          have : ¬ p.1 = k' := fun e => nd.1 (List.mem_map.mpr ⟨p, hp, e⟩)
          simp [this]
        rw [List.map_congr_left this, List.map_id]
      rw [List.map_cons, if_pos rfl, e1]
      exact .cons (k := k') hk hp hh rfl r'
    · have : ¬ ((k', v').1 = k) := q
      simp only [this, decide_false, Bool.false_eq_true, if_false, Option.map_eq_some_iff] at hi
      obtain ⟨j, hj, rfl⟩ := hi
      rw [List.map_cons, if_neg this]
      exact .cons hk hp hh hv (ih nd.2 hj)
theorem DictRows.append {hf : Str → Int} {es : List DictEntry} {l : List (Str × Str)} (r : DictRows hf P es l) {k v : Str} {t u : Tok} (hp : P t) : DictRows hf P (es ++ [⟨hf k, .str k t, .str v u⟩]) (l ++ [(k, v)]) := by
  induction r with
  | nil => exact .cons rfl hp rfl rfl .nil
  | cons a b c d _ ih => exact .cons a b c d ih

variable {A : Around} {E : Value → Shared → Prop} {s : Shared}
theorem setItem_DictS {Q : Unit → Shared → Prop} {a : Addr} {l : List (Str × Str)} {k v : Str} {t u : Tok} (D : DictS s.heap a (hashStr w) P l) (hp : P t) (hl : l.length ≤ 1000)
    (q : ∀ h', Heap.SameBut a s.heap h' → DictS h' a (hashStr w) P (put l k v) → Q () { s with heap := h', toks := s.toks + 1 }) : wpAny (model prog w) A (setItem (.ref a) (.str k t) (.str v u)) Q E s := by
  obtain ⟨ha, nd, es, ep, ho, r⟩ := D
  have hT : s.TypeIs (.ref a) "dict" := ⟨_, ho, rfl⟩
  have hkey : (PySem.strKind prog w).is k (.str k t) = true := decide_eq_true rfl
  have hk : KeysOf (PySem.strKind prog w) es := fun e he => DictRows.keys r e (by simpa using he)
  have hes : es.size ≤ sizeLine := by
    have := r.len
    have e2 : es.toList.length = es.size := by simp
    rw [sizeLine_eq]
    omega
  unfold setItem
  try with_reducible refine wpAny_holding ?_
  refine wpAny_bind (wpAny_sequenceKey hT (by decide) ?_)
  refine wpAny_bind (wpAny_callSpecial?_slot (name := Str.ofString "__setitem__") hT PySem.slot_dict_setitem
    (wpAny_call_entry PySem.slot_dict_setitem hT PySem.entry_dict_setitem ?_ (PySem.args_dict_setitem _ _ _)))
  show wpAny _ _ (Builtin.Dict.notOrdered "__setitem__" ⟨[.ref a, .str k t, .str v u], []⟩ >>= _) _ _ s
  refine wpAny_bind (wpAny_notOrdered_dict hT ?_)
  show wpAny _ _ (dictSet a (.str k t) (.str v u) >>= _) _ _ s
  refine wpAny_bind ?_
  unfold dictSet
  try with_reducible refine wpAny_holding ?_
  refine wpAny_bind ((PySem.strKind prog w).pyHash hkey ?_)
  unfold dictSetHashed
  try with_reducible refine wpAny_holding ?_
  refine wpAny_bind (wpAny_dictFind_of (s := { s with toks := s.toks + 1 }) hkey ho rfl hk ?_)
  have hidx : (es.findIdx? fun e => (PySem.strKind prog w).is k e.key) = l.findIdx? fun p => decide (p.1 = k) := by
    rw [← DictRows.idx (prog := prog) r k]; obtain ⟨l⟩ := es; simp
  cases hi : es.findIdx? fun e => (PySem.strKind prog w).is k e.key with
  | some i =>
    rw [hi] at hidx
    have hany : (l.any fun p => decide (p.1 = k)) = true := by
      rw [List.any_eq_true]
      obtain ⟨hlt, hp, _⟩ := List.findIdx?_eq_some_iff_getElem.mp hidx.symm
      exact ⟨l[i], List.getElem_mem hlt, hp⟩
    refine wpAny_bind (wpAny_rule (wpAny_bind (wpAny_updateDict (s := { s with toks := s.toks + 1 }) ho rfl (wpAny_point (wpAny_pure ⟨.none, rfl, wpAny_pure (q _ (Heap.SameBut.update ..) ⟨ha, ?_, es.modify i _, ep, Heap.get?_update_self _ ho rfl, ?_⟩)⟩)))))
    · unfold put; rw [if_pos hany]
      have : (l.map fun p => if p.1 = k then (p.1, v) else p).map (·.1) = l.map (·.1) := by
        rw [List.map_map]
        refine List.map_congr_left fun p _ => ?_
        show (if p.1 = k then (p.1, v) else p).1 = p.1
        split <;> rfl
      rw [this]; exact nd
    · unfold put; rw [if_pos hany]
      have := r.modify nd hidx.symm v u
      obtain ⟨l⟩ := es
      simpa using this
  | none =>
    rw [hi] at hidx
    have hnone : ∀ p ∈ l, ¬ p.1 = k := fun p hp => by
      have := List.findIdx?_eq_none_iff.mp hidx.symm p hp
      simpa using this
    have hany : ¬ (l.any fun p => decide (p.1 = k)) = true := by
      rw [List.any_eq_true]; rintro ⟨p, hp, he⟩
      exact hnone p hp (of_decide_eq_true he)
    refine wpAny_bind (wpAny_rule (wpAny_updateDictKeys (hz := hes) (s := { s with toks := s.toks + 1 }) ho rfl (wpAny_pure ⟨.none, rfl, wpAny_pure (q _ (Heap.SameBut.update ..) ⟨ha, ?_, es.push ⟨hashStr w k, .str k t, .str v u⟩, ep + 1, Heap.get?_update_self _ ho rfl, ?_⟩)⟩)))
    · unfold put; rw [if_neg hany, List.map_append, List.nodup_append]
      refine ⟨nd, by simp, ?_⟩
      intro x hx b hb
      simp only [List.map_cons, List.map_nil, List.mem_singleton] at hb
      subst hb
      intro e
      obtain ⟨p, hp, e'⟩ := List.mem_map.mp hx
      exact hnone p hp (e'.trans e)
    · unfold put; rw [if_neg hany]
      have := r.append (k := k) (v := v) (t := t) (u := u) hp
      obtain ⟨l⟩ := es
      simpa using this
end
end
section
open PySem PySem.Calls PyProof.Rows
open Builtin Builtin.Str StrLaws in
theorem occ_skip (s sub : Str) (hi : Nat) (l2 : List Nat) : ∀ (l : List Nat) (free : Nat), (∀ i ∈ l, ¬ (i + sub.length ≤ hi ∧ subAt s sub i = true)) → (forIn (l ++ l2) ((#[] : Array Nat), free) (occBody s sub hi 1)).run = (forIn l2 ((#[] : Array Nat), free) (occBody s sub hi 1)).run
  | [], free, _ => rfl
  | a :: l, free, h => by
    rw [List.cons_append, List.forIn_cons]
    have hb : occBody s sub hi 1 a (#[], free) = pure (ForInStep.yield (#[], free)) := by
      unfold occBody
      have hc := h a (List.mem_cons_self ..)
      have c2 : ¬ (((((#[] : Array Nat), free).fst.size < 1 ∧ ((#[] : Array Nat), free).snd ≤ a) ∧ a + sub.length ≤ hi) ∧ subAt s sub a = true) := fun h => hc ⟨h.1.2, h.2⟩
      rw [if_neg c2]
    rw [hb]
    exact occ_skip s sub hi l2 l free fun i hi' => h i (List.mem_cons_of_mem _ hi')
open Builtin Builtin.Str StrLaws in
theorem occ_full (s sub : Str) (hi : Nat) : ∀ (l : List Nat) (p free : Nat), (forIn l ((#[p] : Array Nat), free) (occBody s sub hi 1)).run = (#[p], free)
  | [], p, free => rfl
  | a :: l, p, free => by
    rw [List.forIn_cons]
    unfold occBody
    have c2 : ¬ (((((#[p] : Array Nat), free).fst.size < 1 ∧ ((#[p] : Array Nat), free).snd ≤ a) ∧ a + sub.length ≤ hi) ∧ subAt s sub a = true) := fun h => absurd h.1.1.1 (by simp)
    rw [if_neg c2]
    exact occ_full s sub hi l p free
open Builtin Builtin.Str StrLaws in
theorem occ_one (x : Str) (c p : Nat) (hp : x.cps.toList[p]? = some c) (hn : ∀ i, i < p → x.cps.toList[i]? ≠ some c) : occurrences x ⟨#[c]⟩ 0 x.length 1 = [p] := by
  have hlt : p < x.length := by
    have := (List.getElem?_eq_some_iff.mp hp).1
    simpa [Str.length] using this
  have at1 : ∀ i, (i + (⟨#[c]⟩ : Str).length ≤ x.length ∧ subAt x ⟨#[c]⟩ i = true) ↔ x.cps.toList[i]? = some c := subAt_one x c
  rw [occ_eq]
  have e : List.range' 0 (x.length + 1 - 0) = List.range' 0 p ++ p :: List.range' (p + 1) (x.length - p) := by
    have h1 : x.length + 1 - 0 = p + (1 + (x.length - p)) := by omega
    have h2 := List.range'_append (s := 0) (m := p) (n := 1 + (x.length - p)) (step := 1)
    rw [h1, ← h2, Nat.zero_add, Nat.one_mul, Nat.add_comm 1 (x.length - p), List.range'_succ]
  rw [e, occ_skip x ⟨#[c]⟩ x.length _ _ 0 fun i hi h => hn i (by simpa [List.mem_range'] using hi) ((at1 i).mp h)]
  rw [List.forIn_cons]
  have hit := (at1 p).mpr hp
  have hb : occBody x ⟨#[c]⟩ x.length 1 p (#[], 0) = pure (ForInStep.yield (#[p], p + (⟨#[c]⟩ : Str).length)) := by
    unfold occBody
    rw [if_pos ⟨⟨⟨by simp, Nat.zero_le _⟩, hit.1⟩, hit.2⟩]
    rfl
  rw [hb]
  show ((forIn (List.range' (p + 1) (x.length - p)) ((#[p] : Array Nat), p + (⟨#[c]⟩ : Str).length) (occBody x ⟨#[c]⟩ x.length 1)).run.fst).toList = [p]
  rw [occ_full]

theorem Str.ext_list {a b : Str} (h : a.cps.toList = b.cps.toList) : a = b := by
  cases a; cases b
  exact congrArg _ (Array.toList_inj.mp h)
theorem Str.list_append (a b : Str) : (a ++ b).cps.toList = a.cps.toList ++ b.cps.toList := by
  show (a.cps ++ b.cps).toList = _
  rw [Array.toList_append]
noncomputable abbrev EQs : Str := ⟨#[61]⟩
open Builtin Builtin.Str StrLaws in
theorem split_eq {k v : Str} (hk : 61 ∉ k.cps.toList) : occurrences (k ++ EQs ++ v) EQs 0 (k ++ EQs ++ v).length 1 = [k.length] ∧ partsBetween (k ++ EQs ++ v) [k.length] 1 = [k, v] := by
  have hL : (k ++ EQs ++ v).cps.toList = k.cps.toList ++ 61 :: v.cps.toList := by
    rw [Str.list_append, Str.list_append, List.append_assoc]
    rfl
  have hkl : k.cps.toList.length = k.length := by simp [Str.length]
  have hxl : (k ++ EQs ++ v).length = k.length + (1 + v.length) := by rw [Str.length_append, Str.length_append]; show k.length + 1 + v.length = _; omega
  constructor
  · refine occ_one _ 61 _ ?_ fun i hi h => ?_
    · rw [hL, List.getElem?_append_right (by omega), hkl, Nat.sub_self]; rfl
    · rw [hL, List.getElem?_append_left (by omega)] at h
      exact hk (List.mem_of_getElem? h)
  · show [strSub _ 0 k.length, strSub _ (k.length + 1) (k ++ EQs ++ v).length] = [k, v]
    have e1 : strSub (k ++ EQs ++ v) 0 k.length = k := Str.ext_list (by rw [strSub_toList, hL, List.drop_zero, Nat.sub_zero, ← hkl, List.take_left])
    have e2 : strSub (k ++ EQs ++ v) (k.length + 1) (k ++ EQs ++ v).length = v := Str.ext_list (by
      rw [strSub_toList, hL, ← hkl]
      have : (k.cps.toList ++ 61 :: v.cps.toList).drop (k.cps.toList.length + 1) = v.cps.toList := by
        rw [List.drop_append, List.drop_of_length_le (by omega)]
        simp
      rw [this, hkl, hxl]
      refine List.take_of_length_le ?_
      simp [Str.length]
      omega)
    rw [e1, e2]

section
variable {W : Wd} {n : Nat} {P : Nat → Prop}
theorem Op.split1 {P : Nat → Prop} {k v : Str} (hk : 61 ∉ k.cps.toList) (hl : k.length + v.length ≤ 100000) : Op W n (fun cvs => call (.builtin "str.split") cvs) [.strP P (k ++ EQs ++ v), .str EQs, N 1] (.list [.strP (fun t => W.lo ≤ t) k, .strP (fun t => W.lo ≤ t) v]) := fun A X s cvs Q E O r p => by
  obtain ⟨_, _, rfl, ra, r⟩ := RepAll.consI r
  obtain ⟨_, _, rfl, rb, r⟩ := RepAll.consI r
  obtain ⟨_, _, rfl, rc, r⟩ := RepAll.consI r
  obtain rfl := RepAll.nilI r
  obtain ⟨t, rfl, pt⟩ := Rep.strPI ra
  obtain ⟨u, rfl⟩ := Rep.strI rb
  obtain ⟨tk, rfl⟩ := Rep.intI rc
  obtain ⟨ho, hp⟩ := split_eq (v := v) hk
  have hlim : limitOf (k ++ EQs ++ v) 1 = 1 := rfl
  have hlen : (k ++ EQs ++ v).length = k.length + 1 + v.length := by rw [Str.length_append, Str.length_append]; rfl
  have hkind : Builtin.Str.strKind EQs = 1 := by decide +kernel
  have hk1 : 1 ≤ Builtin.Str.strKind (k ++ EQs ++ v) := by unfold Builtin.Str.strKind; split; exact Nat.le_refl _; split <;> omega
  refine call_meets PySem.F.slot_str_split (typeIs_str _ _ _) PySem.F.entry_str_split (PySem.F.args_str_split_3 _ _ _) (meets_str_split_sep_max (k ++ EQs ++ v) EQs 1 t u tk (by decide) ?_ (by decide) ?_ ?_ ?_) ?_
  · rw [hkind, hlen]
    have e1 : decide (k.length + 1 + v.length < EQs.length) = false := decide_eq_false (by show ¬ (_ < 1); omega)
    have e2 : decide (Builtin.Str.strKind (k ++ EQs ++ v) < 1) = false := decide_eq_false (by omega)
    rw [e1, e2]; rfl
  · rw [hlim, ho]; rfl
  · rw [hlen, sizeLine_eq]; omega
  · rw [hlim, ho]; show (Builtin.Str.partsBetween _ _ 1).length ≤ _; rw [hp, sizeLine_eq]; show 2 ≤ _; decide
  · rw [hlim, ho]
    show Q _ { s with toks := s.toks + (Builtin.Str.partsBetween (k ++ EQs ++ v) [k.length] 1).length, heap := s.heap.push { cls := .type "list", data := .seq (strsFrom s.toks (Builtin.Str.partsBetween (k ++ EQs ++ v) [k.length] 1)).toArray } }
    rw [hp]
    have hlo := O.lo
    refine p _ _ _ ⟨Le.push _ _, by show W.lo ≤ s.toks + 2; omega⟩ (.list (n := 0) (vs := [.str k s.toks, .str v (s.toks + 1)]) O.ok.new (Heap.get?_push_size _ rfl) (.cons (.strP _ _ hlo) (.cons (.strP _ _ (by show W.lo ≤ s.toks + 1; omega)) .nil)))
theorem meth_split : Meth "str" "split" "str.split" := ⟨PySem.F.plainAttrs_str, PySem.F.slot_str_split, PySem.F.type_str_split⟩

theorem Op2.idx_strP {value slice : Expr} {x : Str} {i : Int} {c : Nat} (hr : (decide (i < -(2 ^ 63 : Int)) || decide (i ≥ 2 ^ 63)) = false) (hc : (seqIndex? i x.length).bind (x.cps[·]?) = some c)
    (hs : ∀ o i, subscripted slice false o i = operate [o, i] (getItem o i) := by intro _ _; with_unfolding_all rfl) : Op2 W n (subscriptTail value slice) (.strP P x) (.int i) (.str ⟨#[c]⟩) := fun A X s ca cb Q E O ra rb p => by
  obtain ⟨_, rfl⟩ := Rep.intI rb
  obtain ⟨t, rfl, pt⟩ := Rep.strPI ra
  exact tail_any (typeIs_str _ _ _) PySem.F.slot_str_getitem.lookup (PySem.P.getItem_str hr hc (p.at1 O.lo (.str _ _))) (hs _ _)
end

section
variable {W : Wd} {A : Around} {n : Nat} {X : AS} {env : Env} {h : Heap} {names : List (Str × NameKind)} {ρ : List (Str × PV)}
theorem Ev.sliceP {value e1 e2 : Expr} {p pos : Pos} {x : Str} {i j : Int} (hv : Ev W A X env h value (.strP (fun t => W.lo ≤ t) x)) (h1 : Ev W A X env h e1 (.int i)) (h2 : Ev W A X env h e2 (.int j)) (hl : x.length ≤ 100000) (ht : ∀ o r, letTemporaryGo value o r = pure () := by intro _ _; rfl) :
    Ev W A X env h (.Subscript value (.Slice (some e1) (some e2) none p) pos) (.strP (fun t => W.lo ≤ t) (Txt.slice x (some i) (some j))) := fun s Q E kk q => by
  refine wpAny_Subscript_str_slice (hv s _ E kk fun co g₁ tk₁ k₁ ro => wpAny_evalPart_some (h1 _ _ E (kk.trans k₁) fun ci g₂ tk₂ k₂ ri => wpAny_evalPart_some (h2 _ _ E ((kk.trans k₁).trans k₂) fun cj g₃ tk₃ k₃ rj => ?_))) ht
  obtain ⟨t, rfl, pt⟩ := Rep.strPI ro
  obtain ⟨ti, rfl⟩ := Rep.intI ri
  obtain ⟨tj, rfl⟩ := Rep.intI rj
  have k13 := (k₁.trans k₂).trans k₃
  refine ⟨x, t, some (i, ti), some (j, tj), rfl, rfl, rfl, ?_⟩
  have hle : Le s.heap (g₃.push { cls := .type "slice", data := .fields #[.int i ti, .int j tj, .none] }) := k13.le.trans (Le.push _ _)
  have hdef : Txt.slice x (some i) (some j) = if ((1 : Int) == 1 && (Builtin.Str.strSliceIndices (some i) (some j) 1 x.length).length == x.length) = true then x else ⟨((Builtin.Str.strSliceIndices (some i) (some j) 1 x.length).filterMap (x.cps[·]?)).toArray⟩ := rfl
  have hlen := Txt.slice_le x (some i) (some j)
  show (if ((1 : Int) == 1 && (Builtin.Str.strSliceIndices (some i) (some j) 1 x.length).length == x.length) = true then Made.val (.str x t) else Made.str ⟨((Builtin.Str.strSliceIndices (some i) (some j) 1 x.length).filterMap (x.cps[·]?)).toArray⟩).post Q _
  by_cases hc : ((1 : Int) == 1 && (Builtin.Str.strSliceIndices (some i) (some j) 1 x.length).length == x.length) = true
  · rw [if_pos hc] at hdef ⊢
    refine q _ _ tk₃ ⟨hle, k13.lo⟩ ?_
    rw [hdef]
    exact .strP _ _ pt
  · rw [if_neg hc] at hdef ⊢
    refine ⟨?_, ?_⟩
    · rw [← hdef, sizeLine_eq]; omega
    · refine q _ _ (tk₃ + 1) ⟨hle, Nat.le_succ_of_le k13.lo⟩ ?_
      rw [hdef]
      exact .strP _ _ k13.lo
theorem EvN.dict0 (C : Cx W A n X env h names ρ) {hf : Str → Int} {P : Nat → Prop} {pos : Pos} : EvN W A X env h (.Dict [] [] pos) (.dict hf P []) := fun s Q E k q => by
  refine wpAny_Dict_empty ?_
  have hbig : mainGlobals < s.heap.objs.size := by
    obtain ⟨o, es, ep, ho, _⟩ := (C.ok.mono k.le).base.g
    exact Heap.lt_size ho
  refine q s.heap.objs.size _ s.toks ⟨Le.push _ _, k.lo⟩ (fun b ⟨o, e⟩ => Heap.lt_size e) (.dict ⟨?_, List.nodup_nil, #[], 0, Heap.get?_push_size _ rfl, .nil⟩)
  have h3 : (3 : Nat) < s.heap.objs.size := hbig
  show (s.heap.objs.size == 1) = false
  exact beq_false_of_ne (by omega)
end

section
variable {F : Fp} {ρ ρ' ow ow' : List (Str × PV)} {r : R} {rest : List Stmt}
/-- x[k] = v for an owned dict of strs -/
theorem Ex.setDict {x : Str} {px tpos pos : Pos} {i e : Expr} {P : Nat → Prop} {l : List (Str × Str)} {k v : Str} (hi : E1 F (ρ ++ ow) i (.strP P k)) (he : E1 F (ρ ++ ow) e (.str v))
    (rp : Repl x (.dict (hashStr F.W.w) P l) (.dict (hashStr F.W.w) P (put l k v)) ow ow') (hl : l.length ≤ 1000) (hr : Ex F rest ρ ow' r)
    (hd : (x == ("__debug__" : Str)) = false := by first | decide +kernel | (dsimp only; decide +kernel)) (hcd : (x == ("__classdict__" : Str)) = false := by first | decide +kernel | (dsimp only; decide +kernel))
    (hs : swapsWith e (some (.Subscript (.Name x px) i tpos)) pos.line F.env = pure false := by rfl) :
    Ex F (.Assign [.Subscript (.Name x px) i tpos] e pos :: rest) ρ ow r := .mk fun Z s as Q E S lo q => by
  obtain ⟨a, ham, ld, c, go⟩ := S.mutate rp
  refine wpAny_execs_cons (wpAny_Assign_Subscript (he _ _ S.all s _ E (.refl lo) fun cv h₁ tk₁ k₁ rv => ?_) hs)
  refine wpAny_Name ((ld.mono k₁.le).load S.kind hcd ?_) hd
  refine hi _ _ S.all { s with heap := h₁, toks := tk₁ } _ E k₁ fun ck h₂ tk₂ k₂ rk => ?_
  have k02 := k₁.trans k₂
  obtain ⟨tv, rfl⟩ := Rep.strI rv
  obtain ⟨t, rfl, pt⟩ := Rep.strPI rk
  have D := Cont.dictI c
  refine setItem_DictS (D.mono fun o e => k02.le a o e) pt hl fun h₃ sb D₃ => ?_
  have ks : KeptBut (fun b => b = a) h₂ h₃ := fun b o n e => (sb.2 b n).trans e
  exact hr.go Z { s with heap := h₃, toks := tk₂ + 1 } as Q E (go h₃ (fun b o n e => ks b o n (k02.le b o e)) (.dict D₃)) (Nat.le_succ_of_le k02.lo) fun f h₅ tk₅ as₅ lo₅ ra st => q f h₅ tk₅ as₅ lo₅ ra (((Step.of_le k02.le).trans (.mut ham ks)).trans st)
end
end
section
open PySem PySem.Calls PyProof.Rows
noncomputable def unq (v : Str) : Str := if (v.cps.toList.head? == some 34 && v.cps.toList.getLast? == some 34) = true then Txt.slice v (some 1) (some (-1)) else v
noncomputable def keqStep (d : List (Str × Str)) (p : Str × Str) : List (Str × Str) := put d p.1 (unq p.2)
noncomputable def keqS (its : List (Str × Str)) : List (Str × Str) := its.foldl keqStep []
theorem keqS_succ {its : List (Str × Str)} {i : Nat} {p : Str × Str} (h : its[i]? = some p) : keqS (its.take (i + 1)) = put (keqS (its.take i)) p.1 (unq p.2) := by
  unfold keqS
  rw [List.take_add_one, h, List.foldl_append]
  rfl
theorem keqS_len (its : List (Str × Str)) : (keqS its).length ≤ its.length := by
  have gen : ∀ (l : List (Str × Str)) (d : List (Str × Str)) (k : Nat), d.length ≤ k → (l.foldl keqStep d).length ≤ k + l.length := by
    intro l
    induction l with
    | nil => intro d k h; simpa using h
    | cons p r ih =>
      intro d k h
      have := ih (keqStep d p) (k + 1) (by have := put_len d p.1 (unq p.2); unfold keqStep; omega)
      rw [List.foldl_cons, List.length_cons]; omega
  have := gen its [] 0 (Nat.le_refl _)
  simpa [keqS] using this
noncomputable abbrev DictV (W : Wd) (l : List (Str × Str)) : PV := .dict (hashStr W.w) (fun t => W.lo ≤ t) l

section
variable {W : Wd} {n : Nat}
set_option maxRecDepth 100000
set_option maxHeartbeats 4000000 in
theorem f_keqv (hW : W.ds = fns) {its : List (Str × Str)} (hl : its.length ≤ 100) (hi : ∀ p ∈ its, 61 ∉ p.1.cps.toList ∧ 0 < p.2.length ∧ p.1.length + p.2.length ≤ 100000) : Fun W (n + 1) (fn 15) [.list (its.map fun p => pvS W.lo (p.1 ++ EQs ++ p.2))] (DictV W (keqS its)) :=
  Fun.of ["l"] sc15 (fun A Xc env Y h₀ => by
    show Ex _ _ [("l", .list (its.map fun p => pvS W.lo (p.1 ++ EQs ++ p.2)))] [] _
    refine Ex.assignO (v := DictV W (keqS (its.take 0))) (fun X h C => EvN.dict0 C) rfl (by walk_at "m.erase") (by walk_at "m.off") ?_
    refine Ex.forK (xs := ["elt"]) (rows := (its.map fun p => pvS W.lo (p.1 ++ EQs ++ p.2)).map fun v => [v]) (fun i => ([("l", .list (its.map fun p => pvS W.lo (p.1 ++ EQs ++ p.2)))], [("parsed", DictV W (keqS (its.take i)))])) its.length
      (fun X h C => EvIter.list C (by walk_at "m.ev")) rfl (ownAll (by dsimp only; decide +kernel)) (fun i r hilt hrow => ?_) (.inl ⟨by simp, ?_⟩)
    · obtain ⟨v0, hv0, rfl⟩ := rows_one hrow
      obtain ⟨p, hp, rfl⟩ := get_map hv0
      obtain ⟨k, v⟩ := p
      obtain ⟨h61, hv1, hkv⟩ := hi _ (List.mem_of_getElem? hp)
      have hs := keqS_succ hp
      have hdl := keqS_len (its.take i)
      have hdl2 : (its.take i).length ≤ 100 := by rw [List.length_take]; omega
      refine ⟨fun x hx => by rw [List.mem_singleton.mp hx]; walk_at "m.off", _, by walk_at "m.bind", .inl ?_⟩
      rw [hs]
      generalize keqS (its.take i) = d at hdl ⊢
      dsimp only at h61 hv1 hkv ⊢
      have hne : v.cps.toList ≠ [] := by
        intro q
        have : v.cps.toList.length = v.length := by simp [Str.length]
        rw [q] at this
        simp at this
        omega
      have hvl : v.cps.size = v.length := rfl
      obtain ⟨c0, hc0, hh0⟩ : ∃ c, (seqIndex? 0 v.length).bind (v.cps[·]?) = some c ∧ v.cps.toList.head? = some c := by
        refine ⟨v.cps.toList.head hne, ?_, List.head?_eq_some_head hne⟩
        have : seqIndex? 0 v.length = some 0 := seq_first (fun q => hne (List.length_eq_zero_iff.mp q))
        rw [this]
        show v.cps[0]? = _
        rw [← Array.getElem?_toList, ← List.head?_eq_getElem?, List.head?_eq_some_head hne]
      obtain ⟨c1, hc1, hh1⟩ : ∃ c, (seqIndex? (-1) v.length).bind (v.cps[·]?) = some c ∧ v.cps.toList.getLast? = some c := by
        refine ⟨v.cps.toList.getLast hne, ?_, List.getLast?_eq_some_getLast hne⟩
        have : seqIndex? (-1) v.length = some (v.length - 1) := seq_last (fun q => hne (List.length_eq_zero_iff.mp q))
        rw [this]
        show v.cps[v.length - 1]? = _
        rw [← Array.getElem?_toList, ← List.getLast?_eq_some_getLast hne, List.getLast?_eq_getElem?]
        simp [Str.length]
      refine Ex.unpack2 (a := pvS W.lo k) (b := pvS W.lo v) (.inr fun X h C => ?_) (by walk_at "m.bind") (by walk_at "m.off") (by walk_at "m.off") ?_
      · refine Ev.meth C (Ev.name C (by walk_at "m.look")) (EvArgs.cons Ev.str (EvArgs.cons Ev.nat EvArgs.nil)) (Op.split1 h61 hkv) meth_split IsOf.strP
      have hu : unq v = if ((C1 c0 == ("\"" : Str)) && (C1 c1 == ("\"" : Str))) = true then Txt.slice v (some 1) (some (-1)) else v := by
        unfold unq
        rw [hh0, hh1, qt_eq, qt_eq]
        rfl
      refine Ex.ite (c := ((C1 c0 == ("\"" : Str)) && ((C1 c1 == ("\"" : Str)) && true))) (fun X h C => EvB.and (EvB.cmp C (Ev.sub C (Ev.name C (by walk_at "m.look")) Ev.nat (Op2.idx_strP (by decide) hc0)) Ev.str Op2.eq_str) fun _ => EvB.and (EvB.cmp C (Ev.sub C (Ev.name C (by walk_at "m.look")) (Ev.una C Ev.nat Op1.neg) (Op2.idx_strP (by decide) hc1)) Ev.str Op2.eq_str) fun _ => EvB.andNil) (fun hc => ?_) (fun hc => ?_)
      · rw [Bool.and_true] at hc
        rw [if_pos hc] at hu
        refine ⟨.next [("v", pvS W.lo (unq v)), ("k", pvS W.lo k), ("l", .list (its.map fun p => pvS W.lo (p.1 ++ EQs ++ p.2)))] [("parsed", DictV W d)], ?_, Then.next ?_⟩
        · refine Ex.assign (v := pvS W.lo (unq v)) (fun X h C => (Ev.sliceP (Ev.name C (by walk_at "m.look")) Ev.nat (Ev.una C Ev.nat Op1.neg) (by omega)).cast (by rw [hu]; rfl)) (by walk_at "m.erase") (by walk_at "m.off") ?_
          exact Ex.done (by walk_at "m.sub")
        · refine Ex.setDict (P := fun t => W.lo ≤ t) (k := k) (v := unq v) (l := d) (fun X h C => Ev.name C (by walk_at "m.look")) (fun X h C => Ev.unP (Ev.name C (by walk_at "m.look"))) .hit (by omega) ?_
          exact Ex.done (by walk_at "m.sub")
      · rw [Bool.and_true] at hc
        rw [if_neg (by rw [hc]; exact Bool.false_ne_true)] at hu
        refine ⟨_, Ex.nil, Then.next ?_⟩
        rw [hu]
        refine Ex.setDict (P := fun t => W.lo ≤ t) (k := k) (v := v) (l := d) (fun X h C => Ev.name C (by walk_at "m.look")) (fun X h C => Ev.unP (Ev.name C (by walk_at "m.look"))) .hit (by omega) ?_
        exact Ex.done (by walk_at "m.sub")
    · show Ex _ _ _ [("parsed", DictV W (keqS (its.take its.length)))] _
      rw [List.take_length]
      exact Ex.ret (by walk_at "m.e1")) (by intro pm code doc cvs h; obtain ⟨a, rfl⟩ := len1 h; rfl) (by decide +kernel) rfl
end
end
section
open PySem PySem.Calls PyProof.Rows
section
variable {W : Wd} {A : Around} {n : Nat} {X : AS} {env : Env} {h : Heap} {names : List (Str × NameKind)} {ρ : List (Str × PV)}
theorem EvB.isOrEq (C : Cx W A n X env h names ρ) {x y : Str} {P : Nat → Prop} {ej eb ej' eb' : Expr} {pos p1 p2 : Pos} (hP : ∀ t, P t → 0 < t ∧ t < W.lo) (h1 : Ev W A X env h ej (.strP P x)) (h2 : Ev W A X env h eb (pvS W.lo y)) (h3 : Ev W A X env h ej' (.strP P x)) (h4 : Ev W A X env h eb' (pvS W.lo y))
    (hm : behindInMarks .Is eb = false := by with_unfolding_all rfl) (hm' : behindInMarks .Eq eb' = false := by with_unfolding_all rfl) :
    EvB W A env h (.BoolOp .Or [.Compare ej [.Is] [eb] p1, .Compare ej' [.Eq] [eb'] p2] pos) (x == y) := fun s Q E k q => by
  have hEq : EvB W A env h (.BoolOp .Or [.Compare ej' [.Eq] [eb'] p2] pos) (x == y) := EvB.cast (EvB.or (EvB.cmp C (Ev.unP h3) (Ev.unP h4) Op2.eq_str hm') fun _ => EvB.orNil) (Bool.or_false _)
  refine isTrue_or (wpAny_isTrue_Compare1 (h1 s _ E k fun ca g₁ tk₁ k₁ ra => h2 _ _ E (k.trans k₁) fun cb g₂ tk₂ k₂ rb => ?_) hm)
  obtain ⟨t, rfl, pt⟩ := Rep.strPI ra
  obtain ⟨u, rfl, pu⟩ := Rep.strPI rb
  obtain ⟨t0, tl⟩ := hP t pt
  have h0 : (t == 0 || u == 0) = false := by
    have e1 : (t == 0) = false := beq_false_of_ne (Nat.ne_of_gt t0)
    have e2 : (u == 0) = false := beq_false_of_ne (Nat.ne_of_gt (Nat.lt_of_lt_of_le (Nat.lt_trans t0 tl) pu))
    rw [e1, e2]; rfl
  have hne : (t == u) = false := beq_false_of_ne (Nat.ne_of_lt (Nat.lt_of_lt_of_le tl pu))
  have k12 := k₁.trans k₂
  refine wpAny_bind ?_
  cases hxy : x == y with
  | true =>
    rw [hxy] at q hEq
    refine wpAny_isSame_str h0 (C.ok.mono (k.trans k12).le).base.nb fun b => wpAny_pure (wpAny_truthy_bool ?_)
    cases b with
    | true => exact q g₂ tk₂ k12
    | false => exact hEq _ Q E (k.trans k12) fun g₃ tk₃ k₃ => q g₃ tk₃ (k12.trans k₃)
  | false =>
    rw [hxy] at q hEq
    rw [isSame_str_other x y t u h0 hne hxy]
    refine wpAny_pure (wpAny_pure (wpAny_truthy_bool ?_))
    exact hEq _ Q E (k.trans k12) fun g₃ tk₃ k₃ => q g₃ tk₃ (k12.trans k₃)
end

section
variable {F : Fp} {ρ ρ' ow ow' : List (Str × PV)} {r : R} {rest : List Stmt}
/-- a for that leaves with a return in turn k -/
theorem Ex.forHit {target iter : Expr} {body orelse : List Stmt} {pos : Pos} {xs : List Str} {rows : List (List PV)} {v : PV} {row : List PV} (st : Nat → List (Str × PV) × List (Str × PV)) (k : Nat)
    (hit : ∀ X h, Cx F.W F.A F.n X F.env h F.names ρ → EvIter F.W F.A X F.env h iter target xs rows) (hst : st 0 = (ρ, ow)) (own : ∀ x ∈ xs, ownB F.names x = true)
    (turn : ∀ i row, i < k → rows[i]? = some row → (∀ x ∈ xs, Off x (st i).2) ∧ ∃ ρ', Binds xs row (st i).1 ρ' ∧ (Ex F body ρ' (st i).2 (.next (st (i + 1)).1 (st (i + 1)).2) ∨ Ex F body ρ' (st i).2 (.cont (st (i + 1)).1 (st (i + 1)).2)))
    (hrow : rows[k]? = some row) (off : ∀ x ∈ xs, Off x (st k).2) (hb : ∃ ρ', Binds xs row (st k).1 ρ' ∧ Ex F body ρ' (st k).2 (.ret v))
    (hs : ∀ x, foldedSetIterable iter F.env x = pure x := by intro _; rfl) : Ex F (.For target iter body orelse pos :: rest) ρ ow (.ret v) := .mk fun Z s as Q E S lo q => by
  refine wpAny_execs_cons (for_sem st k hit hst own turn S lo (.inr ⟨row, v, hrow, fun cv h' tk' lo' rp le stp => q (.ret cv) h' tk' [] lo' ⟨⟨cv, rfl, rp, le⟩, rfl⟩ stp, off, hb⟩) hs)
end
theorem strP_any {X : AS} {h : Heap} {P : Nat → Prop} {x : Str} {cv : Value} (r : Rep X h cv (.strP P x)) : True := trivial
section
variable {W : Wd} {n : Nat}
set_option maxRecDepth 100000
set_option maxHeartbeats 4000000 in
theorem f_indexOf (hW : W.ds = fns) {P : Nat → Prop} (hP : ∀ t, P t → 0 < t ∧ t < W.lo) {nms : List Str} {x : Str} {k : Nat} (hk : nms[k]? = some x) (hn : ∀ i, i < k → nms[i]? ≠ some x) :
    Fun W (n + 1) (fn 10) [.list (nms.map (.strP P)), pvS W.lo x] (N k) :=
  Fun.of ["a", "b"] sc10 (fun A Xc env Y h₀ => by
    show Ex _ _ [("a", .list (nms.map (.strP P))), ("b", pvS W.lo x)] [] _
    have hrows : ((nms.map (PV.strP P)).zipIdx.map fun (v, i) => ([.int (i : Nat), v] : List PV)) = nms.zipIdx.map fun p => [N p.2, .strP P p.1] := by
      rw [List.zipIdx_map, List.map_map]; rfl
    refine Ex.forHit (xs := ["i", "j"]) (rows := nms.zipIdx.map fun p => [N p.2, .strP P p.1]) (row := [N k, .strP P x]) (fun i => ([("a", .list (nms.map (.strP P))), ("b", pvS W.lo x)], [])) k
      (fun X h C => by
        refine EvIter.rows ?_ hrows
        exact EvIter.enum C (by walk_at "m.ev")) rfl (ownAll (by dsimp only; decide +kernel)) (fun i r hi hrow => ?_) (by rw [List.getElem?_map, List.getElem?_zipIdx, hk]; simp) (fun x hx => Off.nil) ⟨_, by walk_at "m.bind", ?_⟩
    · obtain ⟨p, hp, rfl⟩ := get_map hrow
      rw [List.getElem?_zipIdx] at hp
      cases hy : nms[i]? with
      | none => rw [hy] at hp; cases hp
      | some y =>
        rw [hy] at hp
        simp only [Option.map_some, Option.some.injEq, Nat.zero_add] at hp
        subst hp
        have hne : (y == x) = false := beq_false_of_ne fun e => hn i hi (e ▸ hy)
        refine ⟨fun x hx => Off.nil, _, by walk_at "m.bind", .inl ?_⟩
        refine Ex.ite (c := y == x) (fun X h C => EvB.isOrEq C hP (by walk_at "m.ev") (by walk_at "m.ev") (by walk_at "m.ev") (by walk_at "m.ev")) (fun hc => ?_) (fun hc => ⟨_, Ex.nil, Then.next (Ex.done (by walk_at "m.sub"))⟩)
        rw [hne] at hc; cases hc
    · refine Ex.ite (c := x == x) (fun X h C => EvB.isOrEq C hP (by walk_at "m.ev") (by walk_at "m.ev") (by walk_at "m.ev") (by walk_at "m.ev")) (fun hc => ⟨.ret (N k), Ex.ret (by walk_at "m.e1"), Then.ret⟩) (fun hc => ?_)
      rw [beq_self_eq_true] at hc; cases hc) (by intro pm code doc cvs h; obtain ⟨a, b, rfl⟩ := len2 h; rfl) (by decide +kernel) rfl

theorem bind3 {pm code doc x y z : Value} : bindArgs (docDef (fn 11).name (fn 11).params (fn 11).body (fn 11).scope pm code doc) ⟨[x, y, z], []⟩ = (pure [("a", x), ("b", y), ("c", z)] : Sem (List (Str × Value))) := rfl
set_option maxHeartbeats 4000000 in
theorem f_setitem : SetF W (n + 1) (fn 11) := fun A X s a o pm code doc b vs nn k t cv Q E O ho hd hcc il hk hl q => by
  obtain ⟨⟨h1, h2, h3⟩, h4⟩ := sc11
  refine wpAny_call (call_plain O.room.lim ho hd O.base.lim hcc bind3 (fun x hx => ?_) (fun h₁ F₁ => ?_) h3 h2 h1 (fun x hx => ?_))
  · rw [h4]
    rcases List.mem_cons.mp hx with rfl | hx
    · rfl
    rcases List.mem_cons.mp hx with rfl | hx
    · rfl
    rcases List.mem_cons.mp hx with rfl | hx
    · rfl
    cases hx
  · have kd : ∀ y, (envOf (fn 11).name (fn 11).scope s.heap.objs.size a code).kindOf y = (fn 11).scope.names.lookup y := fun y => rfl
    rw [h4] at kd
    have ka : (envOf (fn 11).name (fn 11).scope s.heap.objs.size a code).kindOf "a" = some .local := (kd _).trans rfl
    have kb : (envOf (fn 11).name (fn 11).scope s.heap.objs.size a code).kindOf "b" = some .local := (kd _).trans rfl
    have kc : (envOf (fn 11).name (fn 11).scope s.heap.objs.size a code).kindOf "c" = some .local := (kd _).trans rfl
    have hkind : (envOf (fn 11).name (fn 11).scope s.heap.objs.size a code).scope.kind = .function := h1
    show wpAny _ _ (execs (fn 11).body _) _ _ _
    refine wpAny_execs_cons (wpAny_Assign_Subscript (wpAny_Name (wpAny_loadName_local hkind kc F₁.ns rfl (wpAny_Name (wpAny_loadName_local hkind ka F₁.ns rfl (wpAny_Name (wpAny_loadName_local hkind kb F₁.ns rfl ?_) (by decide +kernel))) (by decide +kernel))) (by decide +kernel)) rfl)
    refine setItem_IsL (W := W) (nn := nn) (vs := vs) (F₁.keep _ _ il) hk hl fun h₂ ks il₂ => wpAny_execs_nil ?_
    have hlo := O.lo
    refine q h₂ (s.toks + 3) (by omega) (fun c o n e => ks c o n (F₁.keep _ _ e)) il₂
  · rw [h4] at hx
    have : ∀ x ∈ ([("a", .local), ("b", .local), ("c", .local)] : List (Str × NameKind)), x.2 ≠ .cell := by decide +kernel
    exact this x hx
end
end
section
open PySem PySem.Calls PyProof.Rows
section
variable {prog : Program} {w : World} {P : Nat → Prop}
theorem DictRows.at {hf : Str → Int} {es : List DictEntry} {l : List (Str × Str)} (r : DictRows hf P es l) : ∀ {i : Nat} {p : Str × Str}, l[i]? = some p → ∃ e t u, es[i]? = some e ∧ e.key = .str p.1 t ∧ P t ∧ e.val = .str p.2 u := by
  induction r with
  | nil => intro i p h; simp at h
  | @cons e k v t u es l hk hp hh hv _ ih =>
    intro i p h
    cases i with
    | zero => cases h; exact ⟨e, t, u, rfl, hk, hp, hv⟩
    | succ i => exact ih h
/-- as the library's maps see it -/
theorem DictRows.pairs {es : List DictEntry} {l : List (Str × Str)} (r : DictRows (hashStr w) P es l) : ∃ kvs, Pairs (PySem.strKind prog w) es kvs ∧ kvs.length = l.length ∧ kvs.map (·.1) = l.map (·.1) ∧ ∀ (i : Nat) p, l[i]? = some p → ∃ u, kvs[i]? = some (p.1, .str p.2 u) := by
  induction r with
  | nil => exact ⟨[], .nil, rfl, rfl, fun i p h => by simp at h⟩
  | @cons e k v t u es l hk hp hh hv _ ih =>
    obtain ⟨kvs, p1, p2, p3, p4⟩ := ih
    refine ⟨(k, .str v u) :: kvs, .cons (by rw [hk]; exact decide_eq_true rfl) hv p1, by simp [p2], by simp [p3], fun i p h => ?_⟩
    cases i with
    | zero => cases h; exact ⟨u, rfl⟩
    | succ i => exact p4 i p h
/-- the dict with its entries and epoch told -/
noncomputable def DictE (P : Nat → Prop) (w : World) (h : Heap) (d : Addr) (es : Array DictEntry) (ep : Nat) (l : List (Str × Str)) : Prop := h.get? d = some { cls := .type "dict", data := .dict es ep } ∧ DictRows (hashStr w) P es.toList l ∧ (l.map (·.1)).Nodup
theorem DictE.at {h : Heap} {d : Addr} {es : Array DictEntry} {ep : Nat} {l : List (Str × Str)} (D : DictE P w h d es ep l) : ∃ kvs, h.DictAt (PySem.strKind prog w) d kvs ep ∧ kvs.length = l.length ∧ (∀ (i : Nat) p, l[i]? = some p → ∃ u, kvs[i]? = some (p.1, .str p.2 u)) ∧ (kvs.map (·.1)).Nodup := by
  obtain ⟨ho, r, nd⟩ := D
  obtain ⟨kvs, p1, p2, p3, p4⟩ := r.pairs (prog := prog)
  exact ⟨kvs, ⟨_, es, ho, ⟨rfl, rfl, rfl⟩, rfl, fun e he => DictRows.keys r e (by simpa using he), p1, p3 ▸ nd⟩, p2, p4, p3 ▸ nd⟩
variable {A : Around} {E : Value → Shared → Prop} {s : Shared}
theorem nextKey {I d : Addr} {i ep : Nat} {es : Array DictEntry} {l : List (Str × Str)} {p : Str × Str} {Q : Option Value → Shared → Prop} (hit : s.heap.IsKeyIter I d i l.length ep) (D : DictE P w s.heap d es ep l) (hx : l[i]? = some p)
    (q : ∀ t h', P t → h'.IsKeyIter I d (i + 1) l.length ep → Heap.SameBut I s.heap h' → Q (some (.str p.1 t)) { s with heap := h' }) : wpAny (model prog w) A (pyNext (.ref I)) Q E s := by
  obtain ⟨o, ho, hc, hd⟩ := id hit
  obtain ⟨hod, r, nd⟩ := D
  obtain ⟨e, t, u, he, hk, ht, hv⟩ := r.at hx
  have hlt : i < l.length := (List.getElem?_eq_some_iff.mp hx).1
  have hsz : es.size = l.length := by have := r.len; simpa using this
  have he' : es[i]? = some e := by simpa using he
  unfold pyNext
  refine wpAny_bind (wpAny_attempt (wpAny_callSpecial?_slot (name := Str.ofString "__next__") hit.typeIs PySem.F.slot_dict_keyiterator_next
    (wpAny_call_entry PySem.F.slot_dict_keyiterator_next hit.typeIs PySem.F.entry_dict_keyiterator_next ?_ (PySem.F.args_dict_keyiterator_next_1 _))))
  refine wpAny_bind (wpAny_pure ?_)
  refine wpAny_bind ?_
  refine wpAny_bind ?_
  first | refine wpAny_bind (wpAny_typeNameOfWhole_keyiter hit.typeIs (wpAny_pure ?_)) | refine wpAny_bind (wpAny_typeNameOf_keyiter hit.typeIs (wpAny_pure ?_))
  refine wpAny_bind (wpAny_fieldsOf ho hd ?_)
  have hown : Builtin.Dict_items.ownsTuple "dict_keyiterator" = false := by decide
  rw [if_neg (by rw [hown]; exact Bool.false_ne_true)]
  show wpAny _ _ (if (Value.ref d == Value.none) = true then _ else _) _ _ s
  rw [if_neg (show ¬ ((Value.ref d == Value.none) = true) from Bool.false_ne_true)]
  refine wpAny_bind (wpAny_pure ?_)
  refine wpAny_bind (wpAny_dictEntries hod rfl ?_)
  rw [if_neg (by rw [hsz]; simp)]
  refine wpAny_bind (wpAny_pure ?_)
  refine wpAny_bind (wpAny_dictEpoch hod rfl ?_)
  rw [if_neg (by simp)]
  refine wpAny_pure ?_
  dsimp only
  rw [if_neg (show ¬ ((i : Int) < 0) from Int.not_lt.mpr (Int.natCast_nonneg i)), Int.toNat_natCast, he']
  refine wpAny_bind ?_
  first | refine wpAny_bind (wpAny_typeNameOfWhole_keyiter hit.typeIs (wpAny_pure ?_)) | refine wpAny_bind (wpAny_typeNameOf_keyiter hit.typeIs (wpAny_pure ?_))
  refine wpAny_bind (wpAny_isOneOf_keyiter hit.typeIs ?_)
  show wpAny _ _ (setField (.ref I) 1 (rawInt ((i : Int) + 1)) >>= _) _ _ s
  refine wpAny_bind (wpAny_setField ho hd (by simp) ?_)
  have hit' : (s.heap.update I (Obj.mapFields (·.setIfInBounds 1 (rawInt ((i : Int) + 1))))).IsKeyIter I d (i + 1) l.length ep :=
    ⟨_, Heap.get?_update_self _ ho (Obj.isFreed_of_fields (Obj.data_mapFields hd _)), (Obj.cls_mapFields ..).trans hc, by rw [Obj.data_mapFields hd]; simp [rawInt]⟩
  refine wpAny_bind (wpAny_holding ?_)
  refine wpAny_bind (wpAny_isOneOf_keyiter (s := { s with heap := s.heap.update I (Obj.mapFields (·.setIfInBounds 1 (rawInt ((i : Int) + 1)))) }) hit'.typeIs ?_)
  show wpAny _ _ (pure e.key) _ _ _
  rw [hk]
  exact wpAny_pure (wpAny_pure ⟨_, rfl, wpAny_pure (q t _ ht hit' (Heap.SameBut.update ..))⟩)
end

theorem DictE.keep {P : Nat → Prop} {w : World} {h h' : Heap} {d : Addr} {es : Array DictEntry} {ep : Nat} {l : List (Str × Str)} (D : DictE P w h d es ep l) (k : ∀ o, h.get? d = some o → h'.get? d = some o) : DictE P w h' d es ep l := ⟨k _ D.1, D.2⟩
section
variable {W : Wd} {A : Around} {n : Nat} {X : AS} {env : Env} {h : Heap} {names : List (Str × NameKind)} {ρ : List (Str × PV)}
theorem Tn.dictKeys {P : Nat → Prop} {x : Str} {px : Pos} (hh : A.handled = none) (I d : Addr) (hne : d ≠ I) {es : Array DictEntry} {ep : Nat} {l : List (Str × Str)} : Tn W A (.Name x px) [x] I [I, d] [I] l.length (fun i vs => ∃ p t, l[i]? = some p ∧ vs = [.str p.1 t] ∧ P t) (fun i h => h.IsKeyIter I d i l.length ep ∧ DictE P W.w h d es ep l) where
  sub := fun b hb => by simp at hb; simp [hb]
  frame := fun _ _ _ st hk => ⟨st.1.at fun o e => hk I (by simp) o e, st.2.keep fun o e => hk d (by simp) o e⟩
  item := fun env i s Kn Q E hi st lo q => by
    refine nextKey st.1 st.2 (p := l[i]) (by simp [hi]) fun t h' ht hit' hs' => ?_
    refine wpAny_pure (PySem.wpAny_assign_Name (q _ h' s.toks (Nat.le_refl _) ⟨l[i], t, by simp [hi], rfl, ht⟩ rfl ⟨hit', st.2.keep fun o e => hs'.extBut d o hne e⟩ fun b o hb e => hs'.extBut b o (fun h => hb (by simp [h])) e))
  alive := fun i h st b hb => by rw [List.mem_singleton.mp hb]; obtain ⟨o, ho, _⟩ := st.1; exact ⟨o, ho⟩
  done := fun s Q E st q => by
    obtain ⟨kvs, hD, hlen, _, _⟩ := st.2.at (prog := W.prog)
    have hit := st.1
    rw [← hlen] at hit
    exact wpAny_pyNext_dict_end hh hit hD (by simp) fun h' he' => q h' s.toks (Nat.le_refl _) fun b o hb e => he' b o (fun h => hb (by simp [h])) e
  self := fun _ _ _ _ st hQ => wpAny_pyIter_keyiter st.1 hQ
/-- a dict's keys -/
theorem EvIter.dict (C : Cx W A n X env h names ρ) {iter : Expr} {x : Str} {px : Pos} {P : Nat → Prop} {l : List (Str × Str)} (he : Ev W A X env h iter (.dict (hashStr W.w) P l)) : EvIter W A X env h iter (.Name x px) [x] (l.map fun p => [.strP P p.1]) := fun s K E k q => by
  refine he s _ E k fun cv h₁ tk₁ k₁ r₁ => ?_
  have O := (C.ok.mono k.le).mono k₁.le
  obtain ⟨a, rfl, na, D⟩ := Rep.dictI r₁
  obtain ⟨hsm, nd, es, ep, ho, r⟩ := D
  have DE : DictE P W.w h₁ a es ep l := ⟨ho, r, nd⟩
  obtain ⟨kvs, hD, hlen, _, _⟩ := DE.at (prog := W.prog)
  have hne : a ≠ h₁.objs.size := Nat.ne_of_lt (Heap.lt_size ho)
  refine wpAny_pyIter_dict hsm hD (q h₁.objs.size [h₁.objs.size, a] [h₁.objs.size] (fun i vs => ∃ p t, l[i]? = some p ∧ vs = [.str p.1 t] ∧ P t) (fun i h => h.IsKeyIter h₁.objs.size a i l.length ep ∧ DictE P W.w h a es ep l) _ _ (k₁.more (Le.push _ _)) (by rw [List.length_map]; exact Tn.dictKeys (P := P) (es := es) (ep := ep) (l := l) C.ok.room.handled h₁.objs.size a hne) (fun i ws row hB hr => ?_) ⟨⟨_, Heap.get?_push_size _ rfl, rfl, by rw [hlen]; rfl⟩, DE.keep fun o e => Heap.get?_push_of_some _ e⟩ (fun b hb => ?_) (fun b hb => ?_))
  · obtain ⟨p, t, hp, rfl, ht⟩ := hB
    rw [List.getElem?_map, hp] at hr
    cases hr
    exact .cons (.strP _ _ ht) .nil
  · rcases List.mem_cons.mp hb with rfl | hb
    · exact ⟨⟨_, Heap.get?_push_size _ rfl⟩, O.new⟩
    · rw [List.mem_singleton.mp hb]
      exact ⟨⟨_, Heap.get?_push_of_some _ ho⟩, na⟩
  · rw [List.mem_singleton.mp hb]
    exact fun al => by
      obtain ⟨o, e⟩ := al.mono k₁.le
      rw [get_size] at e; cases e
theorem Op2.sub_dict {P P' : Nat → Prop} {value slice : Expr} {l : List (Str × Str)} {k v : Str} (hx : ∃ i : Nat, l[i]? = some (k, v))
    (hs : ∀ o i, subscripted slice false o i = operate [o, i] (getItem o i) := by intro _ _; with_unfolding_all rfl) : Op2 W n (subscriptTail value slice) (.dict (hashStr W.w) P l) (.strP P' k) (.str v) := fun A X s ca cb Q E O ra rb p => by
  obtain ⟨t, rfl, pt⟩ := Rep.strPI rb
  obtain ⟨a, rfl, na, D⟩ := Rep.dictI ra
  obtain ⟨hsm, nd, es, ep, ho, r⟩ := D
  have DE : DictE P W.w s.heap a es ep l := ⟨ho, r, nd⟩
  obtain ⟨kvs, hD, hlen, hat, hnd⟩ := DE.at (prog := W.prog)
  obtain ⟨i, hi⟩ := hx
  obtain ⟨u, hu⟩ := hat i _ hi
  have hv := valueAt_of_get hnd hu
  have hm := hD.dictOf.mapOf
  exact tail_any (T := "dict") ⟨_, ho, rfl⟩ PySem.slot_dict_getitem.lookup (wpAny_getItem_of (k := k) (decide_eq_true rfl) hm hv (p.at1 O.lo (.str _ _))) (hs _ _)
end
end
section
open PySem PySem.Calls PyProof.Rows
theorem Ex.setNs {F : Fp} {ρ ow ow' : List (Str × PV)} {r : R} {rest : List Stmt} {f x : Str} {fp px pos spos : Pos} {i e : Expr} {L : List Nat} {k b : Nat} (d : DefRec) (hi : E1 F (ρ ++ ow) i (N k)) (he : E1 F (ρ ++ ow) e (N b)) (hd : d ∈ F.W.ds) (hf : d.name = f) (hn : SetF F.W F.n d)
    (rp : Repl x (Ns L) (Ns (L.set k b)) ow ow') (hk : k < L.length) (hl : L.length ≤ 1000) (hr : Ex F rest ρ ow' r) (hkf : F.names.lookup f = some .globalImplicit := by first | decide +kernel | (dsimp only; decide +kernel))
    (hs : starEach [.Name x px, i, e] F.env = [(false, eval (.Name x px) F.env), (false, eval i F.env), (false, eval e F.env)] := by rfl)
    (hdf : (f == ("__debug__" : Str)) = false := by first | decide +kernel | (dsimp only; decide +kernel)) (hdx : (x == ("__debug__" : Str)) = false := by first | decide +kernel | (dsimp only; decide +kernel)) (hcd : (x == ("__classdict__" : Str)) = false := by first | decide +kernel | (dsimp only; decide +kernel)) :
    Ex F (.Expr (.Call (.Name f fp) [.Name x px, i, e] [] pos) spos :: rest) ρ ow r := by
  have e1 : Ns (L.set k b) = .list ((L.map N).set k (N b)) := by show PV.list _ = _; rw [List.map_set]
  rw [e1] at rp
  exact Ex.setcall d hi he rfl hd hf hn rp (by simpa using hk) (by simpa using hl) hr hkf hs hdf hdx hcd
noncomputable def idx (nms : List Str) (x : Str) : Nat := nms.findIdx (· == x)
theorem idx_at {nms : List Str} {x : Str} (h : x ∈ nms) : nms[idx nms x]? = some x ∧ ∀ i, i < idx nms x → nms[i]? ≠ some x := by
  have hlt : idx nms x < nms.length := List.findIdx_lt_length_of_exists ⟨x, h, beq_self_eq_true _⟩
  refine ⟨?_, fun i hi e => ?_⟩
  · rw [List.getElem?_eq_getElem hlt]
    have := List.findIdx_getElem (xs := nms) (p := (· == x)) (w := hlt)
    exact congrArg some (eq_of_beq this)
  · have := List.not_of_lt_findIdx hi
    obtain ⟨h1, h2⟩ := List.getElem?_eq_some_iff.mp e
    rw [h2] at this
    simp at this
noncomputable def tellStep (one : Nat) (R : List Nat) (other : Nat) : List Nat :=
  let R1 := R.set one (R[one]! ||| (1 <<< other))
  R1.set other (R1[other]! ||| (1 <<< one))
theorem tellStep_len (a : Nat) (R : List Nat) (b : Nat) : (tellStep a R b).length = R.length := by simp [tellStep]
noncomputable def tellIn (nms : List Str) (one : Nat) (R : List Nat) (cs : List Str) : List Nat := cs.foldl (fun R c => tellStep one R (idx nms c)) R
theorem tellIn_len (nms : List Str) (a : Nat) (cs : List Str) : ∀ R, (tellIn nms a R cs).length = R.length := by
  induction cs with
  | nil => intro R; rfl
  | cons c r ih => intro R; show (tellIn nms a _ r).length = _; rw [ih, tellStep_len]
theorem tellIn_succ {nms : List Str} {a : Nat} {R : List Nat} {cs : List Str} {j : Nat} {c : Str} (h : cs[j]? = some c) : tellIn nms a R (cs.take (j + 1)) = tellStep a (tellIn nms a R (cs.take j)) (idx nms c) := by
  unfold tellIn; rw [List.take_add_one, h, List.foldl_append]; rfl
noncomputable def readS (nms : List Str) (l : List (Str × Str)) : List Nat := l.foldl (fun R p => tellIn nms (idx nms p.1) R (pParse p.2.cps.toList)) [0, 0, 0, 0, 0, 0]
theorem readS_len (nms : List Str) (l : List (Str × Str)) : (readS nms l).length = 6 := by
  have gen : ∀ (l : List (Str × Str)) (R : List Nat), R.length = 6 → (l.foldl (fun R p => tellIn nms (idx nms p.1) R (pParse p.2.cps.toList)) R).length = 6 := by
    intro l
    induction l with
    | nil => intro R h; exact h
    | cons p r ih => intro R h; exact ih _ (by rw [tellIn_len, h])
  exact gen l _ rfl
theorem readS_succ {nms : List Str} {l : List (Str × Str)} {i : Nat} {p : Str × Str} (h : l[i]? = some p) : readS nms (l.take (i + 1)) = tellIn nms (idx nms p.1) (readS nms (l.take i)) (pParse p.2.cps.toList) := by
  unfold readS; rw [List.take_add_one, h, List.foldl_append]; rfl
section
variable {W : Wd} {n : Nat}
set_option maxRecDepth 100000
set_option maxHeartbeats 4000000 in
theorem f_read (hW : W.ds = fns) {P : Nat → Prop} (hP : ∀ t, P t → 0 < t ∧ t < W.lo) {nms : List Str} {l : List (Str × Str)}
    (hl : ∀ p ∈ l, p.1 ∈ nms ∧ idx nms p.1 < 6 ∧ p.2.cps.toList.length ≤ 900 ∧ ∀ c ∈ pParse p.2.cps.toList, c ∈ nms ∧ idx nms c < 6) : Fun W (n + 2) (fn 21) [DictV W l, .list (nms.map (.strP P))] (Ns (readS nms l)) :=
  Fun.of ["table", "names"] sc21 (fun A Xc env Y h₀ => by
    show Ex _ _ [("table", DictV W l), ("names", .list (nms.map (.strP P)))] [] _
    refine Ex.assignO (v := Ns (readS nms (l.take 0))) (fun X h C => EvN.list (vs := [N 0, N 0, N 0, N 0, N 0, N 0]) (by walk_at "m.args") (by simp)) Ns_shal (by walk_at "m.erase") (by walk_at "m.off") ?_
    refine Ex.forK (xs := ["name"]) (rows := l.map fun p => [pvS W.lo p.1]) (fun i => ([("table", DictV W l), ("names", .list (nms.map (.strP P)))], [("rows", Ns (readS nms (l.take i)))])) l.length
      (fun X h C => EvIter.dict C (by walk_at "m.ev")) rfl (ownAll (by dsimp only; decide +kernel)) (fun i r hi hrow => ?_) (.inl ⟨by simp, ?_⟩)
    · obtain ⟨p, hp, rfl⟩ := get_map hrow
      obtain ⟨k, v⟩ := p
      obtain ⟨hk1, hk2, hv, hc⟩ := hl _ (List.mem_of_getElem? hp)
      dsimp only at hk1 hk2 hv hc ⊢
      obtain ⟨ha1, ha2⟩ := idx_at hk1
      have hs := readS_succ (nms := nms) hp
      have hlen := readS_len nms (l.take i)
      refine ⟨fun x hx => by rw [List.mem_singleton.mp hx]; walk_at "m.off", _, by walk_at "m.bind", .inl ?_⟩
      rw [hs]
      dsimp only
      generalize readS nms (l.take i) = R at hlen ⊢
      refine Ex.assign (v := N (idx nms k)) (fun X h C => ?_) (by walk_at "m.erase") (by walk_at "m.off") ?_
      · refine' Ev.callF C (fn 10) ?a (f_indexOf hW hP ha1 ha2) (by walk_at "m.ds") id10
        case a => walk_at "m.args"
      generalize hcs : pParse v.cps.toList = cs at hc
      generalize idx nms k = a at hk2 ⊢
      refine Ex.forK (xs := ["call"]) (rows := (cs.map (pvS W.lo)).map fun v => [v]) (fun j => ([("one", N a), ("name", pvS W.lo k), ("table", DictV W l), ("names", .list (nms.map (.strP P)))], [("rows", Ns (tellIn nms a R (cs.take j)))])) cs.length
        (fun X h C => by
          refine EvIter.list C ?_
          refine' Ev.callF C (fn 16) (EvArgs.cons (Ev.sub C (by walk_at "m.ev") (by walk_at "m.ev") (Op2.sub_dict ⟨i, hp⟩)) EvArgs.nil) ?f (by walk_at "m.ds") id16
          case f => exact hcs ▸ f_parse hW hv) (by rw [List.take_zero]; rfl) (ownAll (by dsimp only; decide +kernel)) (fun j r hj hrow => ?_) (.inl ⟨by simp, ?_⟩)
      · obtain ⟨v0, hv0, rfl⟩ := rows_one hrow
        obtain ⟨c, hcj, rfl⟩ := get_map hv0
        obtain ⟨hc1, hc2⟩ := hc c (List.mem_of_getElem? hcj)
        obtain ⟨hb1, hb2⟩ := idx_at hc1
        have ht := tellIn_succ (nms := nms) (a := a) (R := R) hcj
        have hlt := tellIn_len nms a (cs.take j) R
        refine ⟨fun x hx => by rw [List.mem_singleton.mp hx]; walk_at "m.off", _, by walk_at "m.bind", .inl ?_⟩
        rw [ht]
        generalize tellIn nms a R (cs.take j) = m at hlt ⊢
        refine Ex.assign (v := N (idx nms c)) (fun X h C => ?_) (by walk_at "m.erase") (by walk_at "m.off") ?_
        · refine' Ev.callF C (fn 10) ?a (f_indexOf hW hP hb1 hb2) (by walk_at "m.ds") id10
          case a => walk_at "m.args"
        generalize idx nms c = b at hc2 ⊢
        have hm1 : m[a]? = some m[a]! := get! (by omega)
        have hm2 : (m.set a (m[a]! ||| (1 <<< b)))[b]? = some (m.set a (m[a]! ||| (1 <<< b)))[b]! := get! (by rw [List.length_set]; omega)
        refine Ex.setNs (k := a) (b := m[a]! ||| (1 <<< b)) (fn 11) (by walk_at "m.e1") (by walk_at "m.e1") (by walk_at "m.ds") id11 f_setitem .hit (by omega) (by omega) ?_
        refine Ex.setNs (k := b) (b := (m.set a (m[a]! ||| (1 <<< b)))[b]! ||| (1 <<< a)) (fn 11) (by walk_at "m.e1") (by walk_at "m.e1") (by walk_at "m.ds") id11 f_setitem .hit (by rw [List.length_set]; omega) (by rw [List.length_set]; omega) ?_
        exact Ex.done (by walk_at "m.sub")
      · show Ex _ _ _ [("rows", Ns (tellIn nms a R (cs.take cs.length)))] _
        rw [List.take_length]
        exact Ex.done (by walk_at "m.sub")
    · show Ex _ _ _ [("rows", Ns (readS nms (l.take l.length)))] _
      rw [List.take_length]
      exact Ex.ret (by walk_at "m.e1")) (by intro pm code doc cvs h; obtain ⟨a, b, rfl⟩ := len2 h; rfl) (by decide +kernel) rfl
end
end
section
open PySem PySem.Calls PyProof.Rows
section
variable {F : Fp} {ρ ρ' ow ow' : List (Str × PV)} {r : R} {rest : List Stmt}
/-- a while of k turns -/
theorem Ex.whileK {test : Expr} {body : List Stmt} {pos : Pos} (st : Nat → List (Str × PV) × List (Str × PV)) (k : Nat) (hst : st 0 = (ρ, ow)) (ht : ∀ i, i ≤ k → EB F ((st i).1 ++ (st i).2) test (decide (i < k)))
    (turn : ∀ i, i < k → Ex F body (st i).1 (st i).2 (.next (st (i + 1)).1 (st (i + 1)).2)) (hr : Ex F rest (st k).1 (st k).2 r) : Ex F (.While test body [] pos :: rest) ρ ow r := .mk fun Z s as Q E S lo q => by
  refine wpAny_execs_cons (wpAny_While (codeAny_whileLoop (fun c s' => ∃ h₁ tk i as₁, s' = { s with heap := h₁, toks := tk } ∧ i ≤ k ∧ c = k + 1 - i ∧ F.W.lo ≤ tk ∧ SttA F Z (st i).1 (st i).2 as₁ h₁ ∧ Step F as s.heap as₁ h₁) ?_ (k + 1)
    ⟨s.heap, s.toks, 0, as, rfl, Nat.zero_le _, rfl, lo, by rw [hst]; exact S, .refl ..⟩))
  rintro c s' ⟨h₁, tk₁, i, as₁, rfl, hi, rfl, lo₁, S₁, stp⟩
  refine ht i hi F.Xc h₁ S₁.all _ _ _ ⟨.refl _, lo₁⟩ fun h₂ tk₂ k₂ => ?_
  have S₂ := S₁.mono k₂.le
  by_cases hlt : i < k
  · rw [if_pos (decide_eq_true hlt)]
    refine (turn i hlt).go Z { s with heap := h₂, toks := tk₂ } as₁ _ _ S₂ k₂.lo fun f h₃ tk₃ as₃ lo₃ ra st₃ => ?_
    obtain ⟨rfl, S₃⟩ := ra
    exact ⟨k + 1 - (i + 1), by omega, h₃, tk₃, i + 1, as₃, rfl, hlt, rfl, lo₃, S₃, (stp.trans (.of_le k₂.le)).trans st₃⟩
  · have hik : i = k := by omega
    subst hik
    rw [if_neg (by simp)]
    refine wpAny_execs_nil ?_
    exact hr.go Z { s with heap := h₂, toks := tk₂ } as₁ Q E S₂ k₂.lo fun f h₃ tk₃ as₃ lo₃ ra st₃ => q f h₃ tk₃ as₃ lo₃ ra ((stp.trans (.of_le k₂.le)).trans st₃)
end
section
variable {W : Wd} {n : Nat}
theorem Op.abs {a : Int} : Op W n (fun cvs => call (.builtin "abs") cvs) [.int a] (N a.natAbs) := fun A X s cvs Q E O r p => by
  obtain ⟨_, _, rfl, ra, r⟩ := RepAll.consI r
  obtain rfl := RepAll.nilI r
  obtain ⟨t, rfl⟩ := Rep.intI ra
  refine wpAny_toks (call_abs_int fun u tk hle => ?_)
  have e : (if a < 0 then -a else a) = ((a.natAbs : Nat) : Int) := by split <;> omega
  rw [e]
  exact p.at (Nat.le_trans O.lo hle) (.int _ _)
theorem Op.int {a : Int} : Op W n (fun cvs => call (.type "int") cvs) [.int a] (.int a) := fun A X s cvs Q E O r p => by
  obtain ⟨_, _, rfl, ra, r⟩ := RepAll.consI r
  obtain rfl := RepAll.nilI r
  obtain ⟨t, rfl⟩ := Rep.intI ra
  exact PySem.call_int_int (p.here O.lo (.int _ _))
theorem Op.divmod {a b : Nat} (hb : 0 < b) (hs : b < 1073741824) : Op W n (fun cvs => call (.builtin "divmod") cvs) [N a, N b] (.tuple [N (a / b), N (a % b)]) := fun A X s cvs Q E O r p => by
  obtain ⟨_, _, rfl, ra, r⟩ := RepAll.consI r
  obtain ⟨_, _, rfl, rb, r⟩ := RepAll.consI r
  obtain rfl := RepAll.nilI r
  obtain ⟨t, rfl⟩ := Rep.intI ra
  obtain ⟨u, rfl⟩ := Rep.intI rb
  have e1 : (a : Int).fdiv (b : Int) = ((a / b : Nat) : Int) := by rw [Int.fdiv_eq_ediv_of_nonneg _ (by omega), ← Int.natCast_ediv]
  have e2 : (a : Int).fmod (b : Int) = ((a % b : Nat) : Int) := by rw [Int.fmod_eq_emod_of_nonneg _ (by omega), ← Int.natCast_emod]
  have hlo := O.lo
  refine PyProof.Rows.divmod_int (by omega) ?_ (.inl (PyProof.noPylong_small (by omega)))
  rw [e1, e2]
  exact p _ _ _ ⟨Le.push _ _, by show W.lo ≤ s.toks + 1 + 1; omega⟩ (.tuple (n := 0) (vs := [.int _ s.toks, .int _ (s.toks + 1)]) O.ok.new (Heap.get?_push_size _ rfl) (.cons (.int _ _) (.cons (.int _ _) .nil)))
theorem Op2.add_bytes {a b : Array UInt8} (h : a.size + b.size ≤ 1000) : Op2 W n (binaryOp .Add) (.bytes a) (.bytes b) (.bytes (a ++ b)) := fun A X s ca cb Q E O ra rb p => by
  obtain ⟨t, rfl⟩ := Rep.bytesI ra
  obtain ⟨u, rfl⟩ := Rep.bytesI rb
  exact wpAny_toks (PySem.W.KBy.add_bytes (by omega) fun t' k hle => p.at (Nat.le_trans O.lo hle) (.bytes _ _))
end
noncomputable def digU (d : Nat) : Array UInt8 := #[(65 + d).toUInt8]
noncomputable def apV (m : Nat) : Nat → Array UInt8
  | 0 => #[]
  | i + 1 => digU (m / 16 ^ i % 16) ++ apV m i
theorem apV_size (m : Nat) : ∀ i, (apV m i).size = i
  | 0 => rfl
  | i + 1 => by rw [apV, Array.size_append, apV_size m i]; show 1 + i = i + 1; omega
noncomputable def APb : Array UInt8 := #[65, 66, 67, 68, 69, 70, 71, 72, 73, 74, 75, 76, 77, 78, 79, 80]
theorem picked_dig {d : Nat} (h : d < 16) : PySem.W.KBy.picked APb (some (d : Int)) (some ((d + 1 : Nat) : Int)) = digU d := by
  have : ∀ d : Fin 16, PySem.W.KBy.picked APb (some (d.val : Int)) (some ((d.val + 1 : Nat) : Int)) = digU d.val := by decide +kernel
  exact this ⟨d, h⟩
section
variable {W : Wd} {A : Around} {n : Nat} {X : AS} {env : Env} {h : Heap} {names : List (Str × NameKind)} {ρ : List (Str × PV)}
theorem Ev.bslice {value e1 e2 : Expr} {p pos : Pos} {b : Array UInt8} {i j : Int} (hv : Ev W A X env h value (.bytes b)) (h1 : Ev W A X env h e1 (.int i)) (h2 : Ev W A X env h e2 (.int j)) (hl : b.size ≤ 1000) (ht : ∀ o r, letTemporaryGo value o r = pure () := by intro _ _; rfl) :
    Ev W A X env h (.Subscript value (.Slice (some e1) (some e2) none p) pos) (.bytes (PySem.W.KBy.picked b (some i) (some j))) := fun s Q E kk q => by
  refine wpAny_Subscript_Slice (T := "bytes") PySem.W.FB.slot_bytes_getitem.lookup (hv s _ E kk fun co g₁ tk₁ k₁ ro => wpAny_Slice (wpAny_evalPart_some (h1 _ _ E (kk.trans k₁) fun ci g₂ tk₂ k₂ ri => wpAny_evalPart_some (h2 _ _ E ((kk.trans k₁).trans k₂) fun cj g₃ tk₃ k₃ rj => wpAny_evalPart_none ?_)))) ht
  obtain ⟨t, rfl⟩ := Rep.bytesI ro
  obtain ⟨ti, rfl⟩ := Rep.intI ri
  obtain ⟨tj, rfl⟩ := Rep.intI rj
  have k13 := (k₁.trans k₂).trans k₃
  refine ⟨PySem.W.typeIs_bytes _ _ _, wpAny_toks ?_⟩
  refine getItem_meets (PySem.W.typeIs_bytes _ _ _) (by decide) PySem.W.FB.slot_bytes_getitem PySem.W.FB.entry_bytes_getitem (PySem.W.FB.args_bytes_getitem_2 _ _) (PySem.W.KBc.meets_slice2 b t _ (.int i ti) (.int j tj)) ⟨Heap.IsSliceOf.new _ _ _ _, Nat.le_trans (PySem.W.KBc.size_picked_le b _ _) (by rw [sizeLine_eq]; omega), fun t' k hle => ?_⟩
  exact q _ _ k ⟨k13.le.trans (Le.push _ _), Nat.le_trans k13.lo hle⟩ (.bytes _ _)
end
section
variable {W : Wd} {n : Nat}
set_option maxRecDepth 100000
set_option maxHeartbeats 4000000 in
theorem f_ap (hW : W.ds = fns) {a : Int} {k : Nat} (hk : k ≤ 100) (hd : ∀ i, i ≤ k → (a.natAbs / 16 ^ i != 0) = decide (i < k)) : Fun W (n + 1) (fn 14) [.int a] (.bytes (apV a.natAbs k)) :=
  Fun.of ["num"] sc14 (fun A Xc env Y h₀ => by
    show Ex _ _ [("num", .int a)] [] _
    refine Ex.assign (v := .bytes (apV a.natAbs 0)) (fun X h C => Ev.bytes) (by walk_at "m.erase") (by walk_at "m.off") ?_
    refine Ex.assign (v := .bytes APb) (fun X h C => Ev.bytes) (by walk_at "m.erase") (by walk_at "m.off") ?_
    refine Ex.assign (v := N (a.natAbs / 16 ^ 0)) (fun X h C => (Ev.callT C (EvArgs.cons (Ev.callB C (by walk_at "m.args") Op.abs) EvArgs.nil) Op.int).cast (by simp)) (by walk_at "m.erase") (by walk_at "m.off") ?_
    generalize a.natAbs = m at hd ⊢
    refine Ex.weak (ρ' := [("num", N (m / 16 ^ 0)), ("val", .bytes (apV m 0)), ("AP", .bytes APb)]) (by walk_at "m.sub") ?_
    refine Ex.whileK (fun i => ([("num", N (m / 16 ^ i)), ("val", .bytes (apV m i)), ("AP", .bytes APb)], [])) k rfl (fun i hi X h C => ?_) (fun i hi => ?_) ?_
    · exact EvB.cast (EvB.val C (by walk_at "m.ev") Truth.nat) (hd i hi)
    · dsimp only
      have hp : m / 16 ^ (i + 1) = m / 16 ^ i / 16 := by rw [Nat.pow_succ, Nat.div_div_eq_div_mul]
      have hs := apV_size m i
      have hpk := picked_dig (Nat.mod_lt (m / 16 ^ i) (show 0 < 16 by decide))
      rw [hp, show apV m (i + 1) = digU (m / 16 ^ i % 16) ++ apV m i from rfl]
      generalize apV m i = v at hs ⊢
      generalize m / 16 ^ i = u at hpk ⊢
      refine Ex.unpack2 (a := N (u / 16)) (b := N (u % 16)) (.inl fun X h C => Ev.callB C (by walk_at "m.args") (Op.divmod (by decide) (by decide))) (by walk_at "m.bind") (by walk_at "m.off") (by walk_at "m.off") ?_
      refine Ex.assign (v := .bytes (digU (u % 16) ++ v)) (fun X h C => Ev.bin C ((Ev.bslice (Ev.name C (by walk_at "m.look")) (Ev.name C (by walk_at "m.look")) (Ev.bin C (Ev.name C (by walk_at "m.look")) Ev.nat Op2.add_nat) (by decide)).cast (by rw [hpk])) (Ev.name C (by walk_at "m.look")) (Op2.add_bytes (by rw [hs]; show 1 + i ≤ 1000; omega))) (by walk_at "m.erase") (by walk_at "m.off") ?_
      exact Ex.done (by walk_at "m.sub")
    · exact Ex.ret (by walk_at "m.e1")) (by intro pm code doc cvs h; obtain ⟨a, rfl⟩ := len1 h; rfl) (by decide +kernel) rfl
end
end
section
open PySem PySem.Calls PyProof.Rows
section
variable {W : Wd} {n : Nat}
theorem Op.max2 {a b : Nat} : Op W n (fun cvs => call (.builtin "max") cvs) [N a, N b] (N (max a b)) := fun A X s cvs Q E O r p => by
  obtain ⟨_, _, rfl, ra, r⟩ := RepAll.consI r
  obtain ⟨_, _, rfl, rb, r⟩ := RepAll.consI r
  obtain rfl := RepAll.nilI r
  obtain ⟨t, rfl⟩ := Rep.intI ra
  obtain ⟨u, rfl⟩ := Rep.intI rb
  refine wpAny_toks (max_two_ints O.room.handled fun h' tk k hle => ?_)
  have hlo : W.lo ≤ tk := Nat.le_trans O.lo hle
  by_cases hc : (b : Int) > (a : Int)
  · rw [if_pos hc]
    have e : max a b = b := by omega
    rw [e] at p
    exact p _ h' tk ⟨k, hlo⟩ (.int _ _)
  · rw [if_neg hc]
    have e : max a b = a := by omega
    rw [e] at p
    exact p _ h' tk ⟨k, hlo⟩ (.int _ _)
theorem Op.min2 {a b : Nat} : Op W n (fun cvs => call (.builtin "min") cvs) [N a, N b] (N (min a b)) := fun A X s cvs Q E O r p => by
  obtain ⟨_, _, rfl, ra, r⟩ := RepAll.consI r
  obtain ⟨_, _, rfl, rb, r⟩ := RepAll.consI r
  obtain rfl := RepAll.nilI r
  obtain ⟨t, rfl⟩ := Rep.intI ra
  obtain ⟨u, rfl⟩ := Rep.intI rb
  refine wpAny_toks (min_two_ints O.room.handled fun h' tk k hle => ?_)
  have hlo : W.lo ≤ tk := Nat.le_trans O.lo hle
  by_cases hc : (b : Int) < (a : Int)
  · rw [if_pos hc]
    have e : min a b = b := by omega
    rw [e] at p
    exact p _ h' tk ⟨k, hlo⟩ (.int _ _)
  · rw [if_neg hc]
    have e : min a b = a := by omega
    rw [e] at p
    exact p _ h' tk ⟨k, hlo⟩ (.int _ _)
theorem Op.lenL {l : List PV} (hl : l.length ≤ 100000) : Op W n (fun cvs => call (.builtin "len") cvs) [.list l] (N l.length) := fun A X s cvs Q E O r p => by
  obtain ⟨_, _, rfl, ra, r⟩ := RepAll.consI r
  obtain rfl := RepAll.nilI r
  obtain ⟨a, rfl, vs, m, na, ia, ra⟩ := Rep.listI ra
  have hlen := ra.length
  have hlo := O.lo
  refine Calls.call_len_list ia.isList (by simp; omega) ?_
  have e : ((vs.toArray.size : Nat) : Int) = ((l.length : Nat) : Int) := by simp [hlen]
  rw [e]
  exact p.at (by show W.lo ≤ s.toks + 1 + 1; omega) (.int _ _)
theorem Op2.gt_nat {x y : Nat} : Op2 W n (compareOp .Gt) (N x) (N y) (.bool (decide (y < x))) := by
  have := @Op2.gt_int W n x y
  rwa [show decide ((y : Int) < (x : Int)) = decide (y < x) by rw [Bool.eq_iff_iff]; simp] at this
end
/-- a comprehension stored under a name that is a cell -/
theorem Ex.compC {F : Fp} {ρ ρ' ow : List (Str × PV)} {r : R} {rest : List Stmt} {elt : Expr} {gens : List Comprehension} {scope : Scope} {cp px pos : Pos} {x : Str} {v : PV} (he : E1 F ρ (.ListComp elt gens scope cp) v) (er : Erase x ρ ρ') (off : Off x ow) (hr : Ex F rest ((x, v) :: ρ') ow r)
    (hx : F.names.lookup x = some .cell := by first | decide +kernel | (dsimp only; decide +kernel)) : Ex F (.Assign [.Name x px] (.ListComp elt gens scope cp) pos :: rest) ρ ow r := .mk fun Z s as Q E S lo q => by
  have kx : F.env.kindOf x ≠ some .local := by unfold Env.kindOf; rw [S.names, hx]; decide
  have o : ownB F.names x = true := by unfold ownB; rw [hx]; rfl
  exact (Ex.assign (px := px) (pos := pos) he er off hr o (swaps_cell kx)).go Z s as Q E S lo q
noncomputable def telS (tells one other : Nat) : Nat := tells / 3 ^ (max one other * (max one other - 1) / 2 + min one other) % 3
noncomputable def toldB (row : Nat) (tells one other : Nat) : Bool := ((row >>> other) &&& 1 == 1) && (one == other || (telS tells one other == 2 || ((telS tells one other == 1) == decide (other < one))))
noncomputable def listS (rows : List Nat) (tells one : Nat) : List Nat := (List.range 6).filter (toldB rows[one]! tells one)
noncomputable def listsS (rows : List Nat) (tells k : Nat) : List (List Nat) := (List.range k).map (listS rows tells)
theorem tri_cast (M : Nat) : ((M : Int) * ((M : Int) - 1)) = ((M * (M - 1) : Nat) : Int) := by
  cases M with
  | zero => rfl
  | succ k => rw [Int.natCast_mul, Nat.add_sub_cancel]; congr 1; omega
section
variable {W : Wd} {n : Nat}
theorem Op2.pow3 {e : Nat} (h : e ≤ 100) : Op2 W n (binaryOp .Pow) (N 3) (N e) (N (3 ^ e)) := by
  have := @Op2.pow_int W n 3 e (by omega) (by have : Builtin.Int.intBits 3 = 2 := by decide +kernel
                                              rw [this]; omega)
  show Op2 W n (binaryOp .Pow) (.int 3) (.int (e : Nat)) (.int ((3 ^ e : Nat) : Int))
  rw [Int.natCast_pow]
  exact this
set_option maxRecDepth 100000
set_option maxHeartbeats 4000000 in
theorem f_lists (hW : W.ds = fns) {rows : List Nat} {tells : Nat} (hr : rows.length = 6) : Fun W (n + 1) (fn 19) [Ns rows, N tells] (.list ((listsS rows tells 6).map Ns)) :=
  Fun.of ["rows", "tells"] sc19 (fun A Xc env Y h₀ => by
    show Ex _ _ [("rows", Ns rows), ("tells", N tells)] [] _
    refine Ex.assignO (v := .list []) (fun X h C => EvN.list EvArgs.nil (by simp)) rfl (by walk_at "m.erase") (by walk_at "m.off") ?_
    refine Ex.forK (xs := ["one"]) (rows := (List.range 6).map fun i => [.int (i : Nat)]) (fun i => ([("rows", Ns rows), ("tells", N tells)], [("lists", .list ((listsS rows tells i).map Ns))])) 6
      (fun X h C => EvIter.range1 C Ev.nat) rfl (ownAll (by dsimp only; decide +kernel)) (fun i r hi hrow => ?_) (.inl ⟨rfl, ?_⟩)
    · have hr' := range_row hi hrow
      subst hr'
      have hri : rows[i]? = some rows[i]! := get! (by omega)
      refine ⟨fun x hx => by rw [List.mem_singleton.mp hx]; walk_at "m.off", _, by walk_at "m.bind", .inl ?_⟩
      refine Ex.compC (v := Ns ((List.range 6).map (telS tells i))) (fun X h C => (Ev.compB (ρ' := [("one", N i), ("tells", N tells)]) C (((List.range 6).map fun o => N (telS tells i o)).map some) (EvIter.rangeN C (by walk_at "m.ev")) (by walk_at "m.cap") (by walk_at "m.ok") (CompB.map (by simp) fun j v w hv hw X' env' h' C' => ?_) (by simp)).cast (by rw [fm_some]; simp [Function.comp_def])) (by walk_at "m.erase") (by walk_at "m.off") ?_
      · obtain ⟨k, hk, rfl, rfl⟩ := get_map2 hv hw
        have hk6 : k < 6 := by
          obtain ⟨h1, h2⟩ := List.getElem?_eq_some_iff.mp hk
          rw [List.getElem_range] at h2
          rw [List.length_range] at h1
          omega
        have he : max i k * (max i k - 1) / 2 + min i k ≤ 15 := by
          have h1 : max i k ≤ 5 := by omega
          have h2 : max i k * (max i k - 1) ≤ 5 * 4 := Nat.mul_le_mul h1 (by omega)
          have h3 : max i k * (max i k - 1) / 2 ≤ 10 := by omega
          omega
        have hp : 3 ^ (max i k * (max i k - 1) / 2 + min i k) ≤ 3 ^ 15 := Nat.pow_le_pow_right (by decide) he
        have hp0 : 0 < 3 ^ (max i k * (max i k - 1) / 2 + min i k) := Nat.pow_pos (by decide)
        refine Ev.bin C' (v := N (tells / 3 ^ (max i k * (max i k - 1) / 2 + min i k) % 3)) (Ev.bin C' (Ev.name C' (by walk_at "m.look")) (Ev.bin C' Ev.nat (Ev.bin C' (a := N (max i k * (max i k - 1) / 2)) (Ev.bin C' (a := N (max i k * (max i k - 1))) ((Ev.bin C' (Ev.callB C' (by walk_at "m.args") Op.max2) (Ev.bin C' (Ev.callB C' (by walk_at "m.args") Op.max2) Ev.nat Op2.sub_int) (Op2.mul_int (.inl (by simp; omega)))).cast (congrArg PV.int (tri_cast _))) Ev.nat (Op2.fdiv_nat (by decide) (by decide))) (Ev.callB C' (by walk_at "m.args") Op.min2) Op2.add_nat) (Op2.pow3 (by omega))) (Op2.fdiv_nat hp0 (by omega))) Ev.nat (Op2.mod_nat (by decide))
      · refine Ex.append (v := Ns (listS rows tells i)) (.inl fun X h C => ?_) .hit (by simp [listsS]; omega) ?_
        · refine (Ev.compB (ρ' := [("tellers", Ns ((List.range 6).map (telS tells i))), ("one", N i), ("rows", Ns rows)]) C ((List.range 6).map fun o => if toldB rows[i]! tells i o then some (N o) else none) (EvIter.rangeN C (by walk_at "m.ev")) (by walk_at "m.cap") (by walk_at "m.ok") (CompB.filter (by simp) fun a w o hw ho X' env' h' C' => ?_) (Nat.le_trans (List.length_filterMap_le _ _) (by simp))).cast ?_
          · obtain ⟨k, hk, rfl, rfl⟩ := get_map2 hw ho
            have hk6 : k < 6 := by
              obtain ⟨h1, h2⟩ := List.getElem?_eq_some_iff.mp hk
              rw [List.getElem_range] at h2
              rw [List.length_range] at h1
              omega
            have htk : ((List.range 6).map (telS tells i))[k]? = some (telS tells i k) := by rw [List.getElem?_map, List.getElem?_range hk6]; rfl
            generalize (List.range 6).map (telS tells i) = tl at htk C' ⊢
            refine ⟨EvB.cast (a := toldB rows[i]! tells i k) ?_ ?_, fun w hw => ?_⟩
            · refine EvB.cast (EvB.and (a := ((rows[i]! >>> k) &&& 1 == 1)) (EvB.cmp C' (by walk_at "m.ev") Ev.nat Op2.eq_nat) fun _ => EvB.and (EvB.or (a := i == k) (EvB.cmp C' (by walk_at "m.ev") (by walk_at "m.ev") Op2.eq_nat) fun _ => EvB.or (a := telS tells i k == 2) (EvB.cmp C' (Ev.sub C' (by walk_at "m.ev") (by walk_at "m.ev") (Op2.sub_Ns htk (by omega))) Ev.nat Op2.eq_nat) fun _ => EvB.or (a := ((telS tells i k == 1) == decide (k < i))) (EvB.cmp C' (Ev.cmp C' (Ev.sub C' (by walk_at "m.ev") (by walk_at "m.ev") (Op2.sub_Ns htk (by omega))) Ev.nat Op2.eq_nat) (Ev.cmp C' (by walk_at "m.ev") (by walk_at "m.ev") Op2.gt_nat) Op2.eq_bool) fun _ => EvB.orNil) fun _ => EvB.andNil) ?_
              simp only [Bool.or_false, Bool.and_true]
              rfl
            · cases toldB rows[i]! tells i k <;> rfl
            · by_cases hc : toldB rows[i]! tells i k = true
              · rw [if_pos hc] at hw
                cases hw
                walk_at "m.ev"
              · rw [if_neg hc] at hw
                cases hw
          · show PV.list _ = PV.list ((listS rows tells i).map N)
            unfold listS
            rw [List.filterMap_map]
            refine congrArg PV.list ?_
            generalize List.range 6 = L
            induction L with
            | nil => rfl
            | cons a r ih =>
              rw [List.filter_cons, List.filterMap_cons]
              simp only [Function.comp_def, id]
              cases toldB rows[i]! tells i a <;> simpa [Function.comp_def] using ih
        · show Ex _ _ _ _ (.next [("rows", Ns rows), ("tells", N tells)] [("lists", .list ((listsS rows tells (i + 1)).map Ns))])
          rw [show listsS rows tells (i + 1) = listsS rows tells i ++ [listS rows tells i] by unfold listsS; rw [List.range_succ, List.map_append]; rfl]
          rw [List.map_append]
          exact Ex.done (by walk_at "m.sub")
    · exact Ex.ret (by walk_at "m.e1")) (by intro pm code doc cvs h; obtain ⟨a, b, rfl⟩ := len2 h; rfl) (by decide +kernel) rfl
end
end
section
open PySem PySem.Calls PyProof.Rows
theorem RepAll.strs {X : AS} {h : Heap} {P : Nat → Prop} {vs : List Value} {ys : List Str} (r : RepAll X h vs (ys.map (.strP P))) : ∃ l : List (Str × Tok), vs = strValues l ∧ l.map (·.1) = ys ∧ ∀ p ∈ l, P p.2 := by
  induction ys generalizing vs with
  | nil => obtain rfl := RepAll.nilI r; exact ⟨[], rfl, rfl, fun p hp => nomatch hp⟩
  | cons y ys ih =>
    obtain ⟨v, ws, rfl, a, b⟩ := RepAll.consI r
    obtain ⟨l, h1, h2, h3⟩ := ih b
    obtain ⟨t, rfl, pt⟩ := Rep.strPI a
    refine ⟨(y, t) :: l, by rw [h1]; rfl, by rw [← h2]; rfl, fun p hp => ?_⟩
    rcases List.mem_cons.mp hp with rfl | hp
    · exact pt
    · exact h3 p hp
theorem RepAll.strTrue {X : AS} {h : Heap} {vs : List Value} {ys : List Str} (r : RepAll X h vs (ys.map .str)) : RepAll X h vs (ys.map (.strP fun _ => True)) := by
  induction ys generalizing vs with
  | nil => exact r
  | cons y ys ih =>
    obtain ⟨v, ws, rfl, a, b⟩ := RepAll.consI r
    obtain ⟨t, rfl⟩ := Rep.strI a
    exact .cons (.strP _ _ trivial) (ih b)
section
variable {W : Wd} {n : Nat} {P : Nat → Prop}
theorem Op.joinP (hP : ∀ t, W.lo ≤ t → P t) {sep : Str} {ys : List Str} (hl : (ys.map (·.length)).sum + ys.length * sep.length ≤ 100000) : Op W n (fun cvs => call (.builtin "str.join") cvs) [.str sep, .list (ys.map (.strP P))] (.strP P (Str.join sep ys)) := fun A X s cvs Q E O r p => by
  obtain ⟨_, _, rfl, ra, r⟩ := RepAll.consI r
  obtain ⟨_, _, rfl, rb, r⟩ := RepAll.consI r
  obtain rfl := RepAll.nilI r
  obtain ⟨t, rfl⟩ := Rep.strI ra
  obtain ⟨a, rfl, vs, m, na, ia, rl⟩ := Rep.listI rb
  obtain ⟨l, rfl, rfl, hp⟩ := rl.strs
  have hok := joinOk_of (sep := sep) (ys := l.map (·.1)) (by omega)
  unfold JoinOk at hok
  rw [Bool.not_eq_true'] at hok
  have hfit := joinFit_length hok
  have hj : Txt.join sep (l.map (·.1)) = Str.join sep (l.map (·.1)) := StrLaws.glued_eq_join _ _
  rw [hj] at hfit
  refine call_meets PySem.F.slot_str_join (typeIs_str _ _ _) PySem.F.entry_str_join (PySem.F.args_str_join_2 _ _) (meets_str_join_list sep t a l hok) ⟨ia.isList, ?_⟩
  show (joinMade sep l).post Q s
  cases l with
  | nil => exact ⟨hfit, p.at1 O.lo (.strP _ _ (hP _ O.lo))⟩
  | cons q tl =>
    cases tl with
    | nil => exact p.here O.lo (.strP _ _ (hp q (.head _)))
    | cons q' r' =>
      refine ⟨by rw [StrLaws.glued_eq_join]; exact hfit, ?_⟩
      rw [StrLaws.glued_eq_join]
      exact p.at1 O.lo (.strP _ _ (hP _ O.lo))
theorem Op.join {sep : Str} {ys : List Str} (hl : (ys.map (·.length)).sum + ys.length * sep.length ≤ 100000) : Op W n (fun cvs => call (.builtin "str.join") cvs) [.str sep, .list (ys.map .str)] (.str (Str.join sep ys)) := fun A X s cvs Q E O r p => by
  obtain ⟨_, _, rfl, ra, r⟩ := RepAll.consI r
  obtain ⟨_, _, rfl, rb, r⟩ := RepAll.consI r
  obtain rfl := RepAll.nilI r
  obtain ⟨a, rfl, vs, m, na, ia, rl⟩ := Rep.listI rb
  exact Op.joinP (P := fun _ => True) (fun _ _ => trivial) hl A X s [_, _] Q E O (.cons ra (.cons (.list na ia rl.strTrue) .nil)) fun cv h' tk' k' r' => p cv h' tk' k' r'.unP
theorem meth_join : Meth "str" "join" "str.join" := ⟨PySem.F.plainAttrs_str, PySem.F.slot_str_join, PySem.F.type_str_join⟩
theorem Op2.mul_str01 {x : Str} {k : Nat} (hk : k ≤ 1) : Op2 W n (binaryOp .Mult) (.str x) (N k) (.str (if k = 0 then "" else x)) := fun A X s ca cb Q E O ra rb p => by
  obtain ⟨t, rfl⟩ := Rep.strI ra
  obtain ⟨u, rfl⟩ := Rep.intI rb
  refine PySem.P.mul_str ?_ ?_ ?_ ?_
  · rw [decide_eq_false (by omega), decide_eq_false (by omega)]; rfl
  · intro h1 h2
    have : k = 1 := by omega
    subst this
    cases h2
  · intro h1 h2
    have : k = 1 := by omega
    subst this
    cases h2
  · by_cases h0 : k = 0
    · subst h0
      rw [if_pos rfl] at p
      rw [if_pos (by decide)]
      exact ⟨by decide, p.at1 O.lo (.str _ _)⟩
    · have : k = 1 := by omega
      subst this
      rw [if_neg (by decide)] at p
      rw [if_neg (by decide), if_pos (by simp)]
      exact p.here O.lo (.str _ _)
end
section
variable {W : Wd} {A : Around} {n : Nat} {X : AS} {env : Env} {h : Heap} {names : List (Str × NameKind)} {ρ : List (Str × PV)}
/-- and over truth values, as a value -/
theorem Ev.andOne {e : Expr} {pos : Pos} {v : PV} (he : Ev W A X env h e v) : Ev W A X env h (.BoolOp .And [e] pos) v := fun s Q E k p => BoolOp_one (he s Q E k p)
theorem Ev.and (C : Cx W A n X env h names ρ) {e e' : Expr} {r : List Expr} {pos : Pos} {a b : Bool} (he : Ev W A X env h e (.bool a)) (hr : a = true → Ev W A X env h (.BoolOp .And (e' :: r) pos) (.bool b)) : Ev W A X env h (.BoolOp .And (e :: e' :: r) pos) (.bool (a && b)) := fun s Q E k p => by
  refine BoolOp_and (he s _ E k fun cv g tk k' rv => ?_)
  have hT := Truth.bool (W := W) (n := n) (b := a) A X { s with heap := g, toks := tk } cv
  refine hT _ E (C.ok.at (k.trans k')) rv fun tk' lo' => ?_
  cases a with
  | true =>
    have k2 : LeW W.lo s.heap { s with heap := g, toks := tk' } := ⟨k'.le, lo'⟩
    rw [if_pos rfl]
    exact hr rfl _ Q E (k.trans k2) (p.le k2)
  | false =>
    rw [if_neg Bool.false_ne_true]
    exact p cv g tk' ⟨k'.le, lo'⟩ rv
end
noncomputable def sAt (l : List Str) (i : Nat) : Str := (l[i]?).getD ""
theorem sAt_is {l : List Str} {i : Nat} (h : i < l.length) : l[i]? = some (sAt l i) := by unfold sAt; rw [List.getElem?_eq_getElem h]; rfl
theorem sAt_mem {l : List Str} {i : Nat} (h : i < l.length) : sAt l i ∈ l := List.mem_of_getElem? (sAt_is h)
end
section
open PySem PySem.Calls PyProof.Rows
theorem getA! {α : Type} [Inhabited α] {l : List α} {i : Nat} (h : i < l.length) : l[i]? = some l[i]! := by rw [List.getElem!_eq_getElem?_getD, List.getElem?_eq_getElem h]; rfl
noncomputable abbrev Ss (l : List Str) : PV := .list (l.map .str)
theorem Ss_shal {l : List Str} : (Ss l).shal = true := by
  show (l.map PV.str).all PV.flat = true
  rw [List.all_eq_true]
  intro x hx
  obtain ⟨k, _, rfl⟩ := List.mem_map.mp hx
  rfl
theorem Op2.sub_Ss {W : Wd} {n : Nat} {value slice : Expr} {l : List Str} {k : Nat} (hk : k < l.length) (hl : l.length ≤ 1000) (hs : ∀ o i, subscripted slice false o i = operate [o, i] (getItem o i) := by intro _ _; with_unfolding_all rfl) : Op2 W n (subscriptTail value slice) (Ss l) (N k) (.str (sAt l k)) :=
  Op2.sub_list (by rw [List.getElem?_map, sAt_is hk]; rfl) (by omega) hs
theorem Ss_snoc {l : List Str} {x : Str} : Ss (l ++ [x]) = .list (l.map .str ++ [.str x]) := by simp
noncomputable def preAt (nms : List Str) (l : Nat) : Str := sAt nms l ++ ("=\"" : Str) ++ Str.join ("," : Str) nms ++ (",\"" : Str)
noncomputable def written0 (nms : List Str) (ways : List Nat) : List Str := [5, 4, 3, 2, 1, 0].filterMap fun l => if ways[l]! == 2 then some (preAt nms l) else none
noncomputable def rowAt (nms : List Str) (lst : List Nat) : List Str := lst.map (sAt nms)
noncomputable def bareOf (way : Nat) (row : List Str) : Bool := way == 0 && (row.length == 1 && (sAt row 0 != ("" : Str)))
noncomputable def saidOf (way : Nat) (row : List Str) : Str := if bareOf way row then sAt row 0 else (if way == 3 then Str.join (", " : Str) row.reverse else Str.join ("," : Str) row) ++ (if min 1 row.length = 0 then ("" : Str) else ("," : Str))
noncomputable def itemOf (way : Nat) (nm : Str) (row : List Str) : Str := if bareOf way row then nm ++ ("=" : Str) ++ saidOf way row else nm ++ ("=\"" : Str) ++ saidOf way row ++ ("\"" : Str)
noncomputable def escS (x : Str) : List Str := x.cps.toList.map fun c => ("\\" : Str) ++ C1 c
noncomputable def heldOf (way : Nat) (nm : Str) (row : List Str) : Str := nm ++ ("=\"" : Str) ++ Str.join ("" : Str) (escS (saidOf way row)) ++ ("\"" : Str)
noncomputable def writOf (way : Nat) (nm : Str) (row : List Str) : Str := if way == 1 then heldOf way nm row else (" " : Str) ++ itemOf way nm row ++ ("\t" : Str)
noncomputable def saidL (nms : List Str) (lists : List (List Nat)) (ways : List Nat) (k : Nat) : List Str := (List.range k).map fun l => saidOf ways[l]! (rowAt nms lists[l]!)
noncomputable def itemL (nms : List Str) (lists : List (List Nat)) (ways : List Nat) (k : Nat) : List Str := written0 nms ways ++ (List.range k).map fun l => itemOf ways[l]! (sAt nms l) (rowAt nms lists[l]!)
noncomputable def writL (nms : List Str) (lists : List (List Nat)) (ways : List Nat) (k : Nat) : List Str := written0 nms ways ++ (List.range k).map fun l => writOf ways[l]! (sAt nms l) (rowAt nms lists[l]!)
theorem join_sum {sep : Str} {ys : List Str} {B k : Nat} (hk : ys.length ≤ k) (hB : ∀ y ∈ ys, y.length ≤ B) : (ys.map (·.length)).sum + ys.length * sep.length ≤ k * (B + sep.length) := by
  have h1 := StrLaws.sumLen_le ys hB
  have h2 : ys.length * B ≤ k * B := Nat.mul_le_mul_right _ hk
  have h3 : ys.length * sep.length ≤ k * sep.length := Nat.mul_le_mul_right _ hk
  rw [Nat.mul_add]; omega
theorem join_len {sep : Str} {ys : List Str} {B k : Nat} (hk : ys.length ≤ k) (hB : ∀ y ∈ ys, y.length ≤ B) : (Str.join sep ys).length ≤ k * (B + sep.length) := Nat.le_trans (StrLaws.join_length_le sep ys) (join_sum hk hB)
structure HdrOk (nms : List Str) (lists : List (List Nat)) (ways : List Nat) : Prop where
  n6 : nms.length = 6
  n4 : ∀ x ∈ nms, x.length ≤ 4
  l6 : lists.length = 6
  li : ∀ l ∈ lists, l.length ≤ 6 ∧ ∀ o ∈ l, o < 6
  w6 : ways.length = 6
theorem row_ok {nms : List Str} {lst : List Nat} (n6 : nms.length = 6) (n4 : ∀ x ∈ nms, x.length ≤ 4) (hl : lst.length ≤ 6 ∧ ∀ o ∈ lst, o < 6) : (rowAt nms lst).length ≤ 6 ∧ ∀ y ∈ rowAt nms lst, y.length ≤ 4 := by
  refine ⟨by unfold rowAt; rw [List.length_map]; exact hl.1, fun y hy => ?_⟩
  obtain ⟨o, ho, rfl⟩ := List.mem_map.mp hy
  exact n4 _ (sAt_mem (by have := hl.2 o ho; omega))
theorem said_len {way : Nat} {row : List Str} (h6 : row.length ≤ 6) (h4 : ∀ y ∈ row, y.length ≤ 4) : (saidOf way row).length ≤ 40 := by
  unfold saidOf
  split
  · rename_i hb
    unfold bareOf at hb
    simp only [Bool.and_eq_true, beq_iff_eq] at hb
    have := h4 _ (sAt_mem (l := row) (i := 0) (by omega))
    omega
  · have e1 : (", " : Str).length = 2 := by decide +kernel
    have e2 : ("," : Str).length = 1 := by decide +kernel
    have e3 : ("" : Str).length = 0 := by decide +kernel
    have h1 := join_len (sep := (", " : Str)) (ys := row.reverse) (k := 6) (B := 4) (by rw [List.length_reverse]; exact h6) fun y hy => h4 y (List.mem_reverse.mp hy)
    have h2 := join_len (sep := ("," : Str)) (ys := row) (k := 6) (B := 4) h6 h4
    rw [e1] at h1
    rw [e2] at h2
    rw [Str.length_append]
    split <;> split <;> omega
theorem esc_ok {x : Str} (h : x.length ≤ 40) : (escS x).length ≤ 40 ∧ ∀ y ∈ escS x, y.length ≤ 2 := by
  refine ⟨by unfold escS; rw [List.length_map]; simpa [Str.length] using h, fun y hy => ?_⟩
  obtain ⟨c, _, rfl⟩ := List.mem_map.mp hy
  rw [Str.length_append]
  have : ("\\" : Str).length = 1 := by decide +kernel
  rw [this]
  exact Nat.le_refl 2
theorem item_len {way : Nat} {nm : Str} {row : List Str} (hn : nm.length ≤ 4) (h : (saidOf way row).length ≤ 40) : (itemOf way nm row).length ≤ 50 := by
  have e1 : ("=" : Str).length = 1 := by decide +kernel
  have e2 : ("=\"" : Str).length = 2 := by decide +kernel
  have e3 : ("\"" : Str).length = 1 := by decide +kernel
  unfold itemOf
  split <;> simp only [Str.length_append] <;> omega
section
variable {W : Wd} {n : Nat}
set_option maxRecDepth 100000
set_option maxHeartbeats 8000000 in
theorem f_header (hW : W.ds = fns) {nms : List Str} {lists : List (List Nat)} {ways : List Nat} (H : HdrOk nms lists ways) :
    Fun W (n + 1) (fn 20) [Ss nms, .list (lists.map Ns), Ns ways] (.tuple [Ss (writL nms lists ways 6), Ss (itemL nms lists ways 6), Ss (saidL nms lists ways 6)]) :=
  Fun.of ["names", "lists", "ways"] sc20 (fun A Xc env Y h₀ => by
    obtain ⟨n6, n4, l6, li, w6⟩ := H
    have e1 : ("," : Str).length = 1 := by decide +kernel
    have e2 : ("=\"" : Str).length = 2 := by decide +kernel
    have e3 : (",\"" : Str).length = 2 := by decide +kernel
    have e4 : (", " : Str).length = 2 := by decide +kernel
    have e5 : ("\"" : Str).length = 1 := by decide +kernel
    have e6 : ("=" : Str).length = 1 := by decide +kernel
    have e7 : ("\\" : Str).length = 1 := by decide +kernel
    have e8 : (" " : Str).length = 1 := by decide +kernel
    have e9 : ("\t" : Str).length = 1 := by decide +kernel
    have e10 : ("" : Str).length = 0 := by decide +kernel
    show Ex _ _ [("names", Ss nms), ("lists", .list (lists.map Ns)), ("ways", Ns ways)] [] _
    have hjs := join_sum (sep := ("," : Str)) (ys := nms) (k := 6) (B := 4) (Nat.le_of_eq n6) n4
    have hjl := join_len (sep := ("," : Str)) (ys := nms) (k := 6) (B := 4) (Nat.le_of_eq n6) n4
    refine Ex.compOB (os := [5, 4, 3, 2, 1, 0].map fun l => if ways[l]! == 2 then some (.str (preAt nms l)) else none) (v := Ss (written0 nms ways))
      (CompS.ofB (ρ' := [("names", Ss nms), ("ways", Ns ways)]) _ (fun X h C => EvIter.rows (r' := ([5, 4, 3, 2, 1, 0].map N).map fun v => [v]) (EvIter.range3 C 6 Ev.int (Ev.una C Ev.int Op1.neg) (Ev.una C Ev.int Op1.neg)) (by rfl)) (by walk_at "m.cap") (by walk_at "m.ok") (CompB.filter (by simp) fun a w o hw ho X' env' h' C' => ?_) (Nat.le_trans (List.length_filterMap_le _ _) (by simp)) (by walk_at "m.ok")) ?_ Ss_shal (by walk_at "m.erase") (by walk_at "m.off") ?_
    · obtain ⟨k, hk, rfl, rfl⟩ := get_map2 hw ho
      have hk6 : k < 6 := six_lt (List.mem_of_getElem? hk)
      have hwk : ways[k]? = some ways[k]! := get! (by omega)
      have hnk := n4 _ (sAt_mem (l := nms) (i := k) (by omega))
      refine ⟨EvB.cast (a := ways[k]! == 2) (EvB.cmp C' (Ev.sub C' (by walk_at "m.ev") (by walk_at "m.ev") (Op2.sub_Ns hwk (by omega))) Ev.nat Op2.eq_nat) (by cases ways[k]! == 2 <;> rfl), fun w hw => ?_⟩
      have hw' : w = .str (preAt nms k) := by
        revert hw
        cases ways[k]! == 2
        · intro hw; cases hw
        · intro hw; exact (Option.some.inj hw).symm
      rw [hw']
      exact Ev.bin C' (Ev.bin C' (Ev.bin C' (Ev.sub C' (by walk_at "m.ev") (by walk_at "m.ev") (Op2.sub_Ss (by omega) (by omega))) Ev.str (Op2.add_str (by omega))) (Ev.meth C' Ev.str (by walk_at "m.args") (Op.join (by omega)) meth_join IsOf.str) (Op2.add_str (by rw [Str.length_append]; omega))) Ev.str (Op2.add_str (by simp only [Str.length_append]; omega))
    · show _ = PV.list ((List.filterMap (fun l => if ways[l]! == 2 then some (preAt nms l) else none) [5, 4, 3, 2, 1, 0]).map PV.str)
      rw [List.filterMap_map, List.map_filterMap]
      refine congrArg (fun f => PV.list (List.filterMap f [5, 4, 3, 2, 1, 0])) ?_
      funext l
      simp only [Function.comp_def, id]
      cases ways[l]! == 2 <;> rfl
    have hw0 : (written0 nms ways).length ≤ 6 := Nat.le_trans (List.length_filterMap_le _ _) (by simp)
    refine Ex.pairO (v1 := Ss (itemL nms lists ways 0)) (v2 := Ss (saidL nms lists ways 0)) (fun X h C => by
        have : itemL nms lists ways 0 = written0 nms ways := by unfold itemL; exact List.append_nil _
        rw [this]
        exact EvN.sliceAll (by walk_at "m.ev") (by rw [List.length_map]; omega)) (fun X h C => EvN.list EvArgs.nil (Nat.zero_le _)) Ss_shal rfl (by walk_at "m.erase") (by walk_at "m.erase") (by walk_at "m.off") (by walk_at "m.off") (by decide +kernel) ?_
    have hwr0 : written0 nms ways = writL nms lists ways 0 := (List.append_nil _).symm
    rw [hwr0]
    refine Ex.forK (xs := ["lamp"]) (rows := (List.range 6).map fun i => [.int (i : Nat)]) (fun i => ([("names", Ss nms), ("lists", .list (lists.map Ns)), ("ways", Ns ways)], [("items", Ss (itemL nms lists ways i)), ("said", Ss (saidL nms lists ways i)), ("written", Ss (writL nms lists ways i))])) 6
      (fun X h C => EvIter.range1 C Ev.nat) rfl (ownAll (by dsimp only; decide +kernel)) (fun i r hi hrow => ?_) (.inl ⟨rfl, ?_⟩)
    · have hr' := range_row hi hrow
      subst hr'
      have hwi : ways[i]? = some ways[i]! := get! (by omega)
      have hli : lists[i]? = some lists[i]! := getA! (by omega)
      have hlo := li _ (List.mem_of_getElem? hli)
      obtain ⟨hr6, hr4⟩ := row_ok n6 n4 hlo
      have hn4 := n4 _ (sAt_mem (l := nms) (i := i) (by omega))
      have hsN : saidL nms lists ways (i + 1) = saidL nms lists ways i ++ [saidOf ways[i]! (rowAt nms lists[i]!)] := by unfold saidL; rw [List.range_succ, List.map_append]; rfl
      have hiN : itemL nms lists ways (i + 1) = itemL nms lists ways i ++ [itemOf ways[i]! (sAt nms i) (rowAt nms lists[i]!)] := by unfold itemL; rw [List.range_succ, List.map_append, ← List.append_assoc]; rfl
      have hwN : writL nms lists ways (i + 1) = writL nms lists ways i ++ [writOf ways[i]! (sAt nms i) (rowAt nms lists[i]!)] := by unfold writL; rw [List.range_succ, List.map_append, ← List.append_assoc]; rfl
      have hsl : (saidL nms lists ways i).length = i := by unfold saidL; simp
      have hil : (itemL nms lists ways i).length ≤ 12 := by unfold itemL; rw [List.length_append, List.length_map, List.length_range]; omega
      have hwl : (writL nms lists ways i).length ≤ 12 := by unfold writL; rw [List.length_append, List.length_map, List.length_range]; omega
      refine ⟨fun x hx => by rw [List.mem_singleton.mp hx]; walk_at "m.off", _, by walk_at "m.bind", .inl ?_⟩
      rw [hsN, hiN, hwN]
      generalize saidL nms lists ways i = sL at hsl ⊢
      generalize itemL nms lists ways i = iL at hil ⊢
      generalize writL nms lists ways i = wL at hwl ⊢
      refine Ex.compSB (os := (lists[i]!.map fun o => PV.str (sAt nms o)).map some) (v := Ss (rowAt nms lists[i]!))
        (CompS.ofB (ρ' := [("names", Ss nms)]) _ (fun X h C => EvIter.list C (l := lists[i]!.map N) (Ev.sub C (by walk_at "m.ev") (by walk_at "m.ev") (Op2.sub_list (by rw [List.getElem?_map, hli]; rfl) (by omega)))) (by walk_at "m.cap") (by walk_at "m.ok") (CompB.map (by simp) fun j v w hv hw X' env' h' C' => ?_) (by rw [fm_some, List.length_map]; omega) (by walk_at "m.ok")) (by rw [fm_some]; unfold rowAt; rw [Ss, List.map_map]; rfl) Ss_shal (by walk_at "m.erase") (by walk_at "m.off") ?_
      · obtain ⟨k, hk, rfl, rfl⟩ := get_map2 hv hw
        have hk6 := hlo.2 k (List.mem_of_getElem? hk)
        exact Ev.sub C' (by walk_at "m.ev") (by walk_at "m.ev") (Op2.sub_Ss (by omega) (by omega))
      generalize rowAt nms lists[i]! = row at hr6 hr4 ⊢
      have hnmi : i < nms.length := by omega
      generalize hnm : sAt nms i = nm at hn4 ⊢
      have hsd := said_len (way := ways[i]!) hr6 hr4
      have hbr : bareOf ways[i]! row = true → 0 < row.length := fun hb => by
        unfold bareOf at hb
        simp only [Bool.and_eq_true, beq_iff_eq] at hb
        omega
      have evNm : ∀ {A : Around} {X : AS} {env : Env} {h : Heap} {value slice : Expr}, (∀ o i, subscripted slice false o i = operate [o, i] (getItem o i)) → Op2 W n (subscriptTail value slice) (Ss nms) (N i) (.str nm) := fun {A X env h value slice} hs => hnm ▸ Op2.sub_Ss hnmi (by omega) hs
      refine Ex.assign (v := .bool (bareOf ways[i]! row)) (fun X h C => ?_) (by walk_at "m.erase") (by walk_at "m.off") ?_
      · unfold bareOf
        refine Ev.and C (Ev.cmp C (Ev.sub C (by walk_at "m.ev") (by walk_at "m.ev") (Op2.sub_Ns hwi (by omega))) Ev.nat Op2.eq_nat) fun _ => Ev.and C (Ev.cmp C ((Ev.callB C (by walk_at "m.args") (Op.lenL (by rw [List.length_map]; omega))).cast (by rw [List.length_map])) Ev.nat Op2.eq_nat) fun h1 => Ev.andOne (Ev.cmp C (Ev.sub C (by walk_at "m.ev") Ev.nat (Op2.sub_Ss (by have := eq_of_beq h1; omega) (by omega))) Ev.str Op2.ne_str)
      have hsu : bareOf ways[i]! row = true → saidOf ways[i]! row = sAt row 0 := fun hb => by unfold saidOf; rw [if_pos hb]
      have hsu' : bareOf ways[i]! row = false → saidOf ways[i]! row = (if (ways[i]! == 3) = true then Str.join (", " : Str) row.reverse else Str.join ("," : Str) row) ++ (if min 1 row.length = 0 then ("" : Str) else ("," : Str)) := fun hb => by unfold saidOf; rw [hb]; rfl
      have hiu : bareOf ways[i]! row = true → itemOf ways[i]! nm row = nm ++ ("=" : Str) ++ saidOf ways[i]! row := fun hb => by unfold itemOf; rw [if_pos hb]
      have hiu' : bareOf ways[i]! row = false → itemOf ways[i]! nm row = nm ++ ("=\"" : Str) ++ saidOf ways[i]! row ++ ("\"" : Str) := fun hb => by unfold itemOf; rw [hb]; rfl
      have hil2 := item_len (way := ways[i]!) (row := row) hn4 hsd
      have hhu : heldOf ways[i]! nm row = nm ++ ("=\"" : Str) ++ Str.join ("" : Str) (escS (saidOf ways[i]! row)) ++ ("\"" : Str) := rfl
      have hwu : (ways[i]! == 1) = true → writOf ways[i]! nm row = heldOf ways[i]! nm row := fun hb => by unfold writOf; rw [if_pos hb]
      have hwu' : (ways[i]! == 1) = false → writOf ways[i]! nm row = (" " : Str) ++ itemOf ways[i]! nm row ++ ("\t" : Str) := fun hb => by unfold writOf; rw [hb]; rfl
      generalize saidOf ways[i]! row = sd at hsd hsu hsu' hiu hiu' hhu ⊢
      generalize itemOf ways[i]! nm row = it at hiu hiu' hil2 hwu' ⊢
      generalize writOf ways[i]! nm row = wr at hwu hwu' ⊢
      have hj3 := join_sum (sep := (", " : Str)) (ys := row.reverse) (k := 6) (B := 4) (by rw [List.length_reverse]; exact hr6) fun y hy => hr4 y (List.mem_reverse.mp hy)
      have hj3' := join_len (sep := (", " : Str)) (ys := row.reverse) (k := 6) (B := 4) (by rw [List.length_reverse]; exact hr6) fun y hy => hr4 y (List.mem_reverse.mp hy)
      have hj1 := join_sum (sep := ("," : Str)) (ys := row) (k := 6) (B := 4) hr6 hr4
      have hj1' := join_len (sep := ("," : Str)) (ys := row) (k := 6) (B := 4) hr6 hr4
      refine Ex.append (v := .str sd) (.inr ⟨fun X h C => Ev.ite (EvB.val C (by walk_at "m.ev") Truth.bool) (fun hb => ?_) (fun hb => ?_), rfl⟩) (.miss .hit) (by rw [List.length_map]; omega) ?_
      · exact (Ev.sub C (by walk_at "m.ev") Ev.nat (Op2.sub_Ss (hbr hb) (by omega))).cast (by rw [hsu hb])
      · refine (Ev.bin C (Ev.ite (c := ways[i]! == 3) (EvB.cmp C (Ev.sub C (by walk_at "m.ev") (by walk_at "m.ev") (Op2.sub_Ns hwi (by omega))) Ev.nat Op2.eq_nat) (fun hc => ?_) (fun hc => ?_)) (Ev.bin C Ev.str (Ev.callB C (EvArgs.cons Ev.nat (EvArgs.cons ((Ev.callB C (by walk_at "m.args") (Op.lenL (by rw [List.length_map]; omega))).cast (by rw [List.length_map])) EvArgs.nil)) Op.min2) (Op2.mul_str01 (by omega))) (Op2.add_str ?_)).cast (by rw [hsu' hb])
        · rw [if_pos hc]
          exact Ev.meth C Ev.str (EvArgs.cons (((EvN.sliceRev (by walk_at "m.ev") (Ev.una C Ev.int Op1.neg) (by rw [List.length_map]; exact hr6)).ev C).cast (by rw [← List.map_reverse])) EvArgs.nil) (Op.join (by omega)) meth_join IsOf.str
        · rw [hc]
          exact Ev.meth C Ev.str (by walk_at "m.args") (Op.join (by omega)) meth_join IsOf.str
        · split <;> split <;> omega
      rw [show (PV.list (List.map PV.str sL ++ [.str sd])) = Ss (sL ++ [sd]) from Ss_snoc.symm]
      have hsL : (List.map PV.str (sL ++ [sd]))[i]? = some (.str sd) := by rw [List.getElem?_map, List.getElem?_append_right (by omega), hsl, Nat.sub_self]; rfl
      refine Ex.append (v := .str it) (.inr ⟨fun X h C => Ev.ite (EvB.val C (by walk_at "m.ev") Truth.bool) (fun hb => ?_) (fun hb => ?_), rfl⟩) .hit (by rw [List.length_map]; omega) ?_
      · exact (Ev.bin C (Ev.bin C (Ev.sub C (by walk_at "m.ev") (by walk_at "m.ev") (hnm ▸ Op2.sub_Ss hnmi (by omega))) Ev.str (Op2.add_str (by omega))) (Ev.sub C (by walk_at "m.ev") (by walk_at "m.ev") (Op2.sub_list hsL (by omega))) (Op2.add_str (by rw [Str.length_append]; omega))).cast (by rw [hiu hb])
      · exact (Ev.bin C (Ev.bin C (Ev.bin C (Ev.sub C (by walk_at "m.ev") (by walk_at "m.ev") (hnm ▸ Op2.sub_Ss hnmi (by omega))) Ev.str (Op2.add_str (by omega))) (Ev.sub C (by walk_at "m.ev") (by walk_at "m.ev") (Op2.sub_list hsL (by omega))) (Op2.add_str (by rw [Str.length_append]; omega))) Ev.str (Op2.add_str (by simp only [Str.length_append]; omega))).cast (by rw [hiu' hb])
      rw [show (PV.list (List.map PV.str iL ++ [.str it])) = Ss (iL ++ [it]) from Ss_snoc.symm]
      have hiL : (List.map PV.str (iL ++ [it]))[(List.map PV.str (iL ++ [it])).length - 1]? = some (.str it) := by rw [List.length_map, List.length_append]; simp
      obtain ⟨he1, he2⟩ := esc_ok hsd
      have hje := join_sum (sep := ("" : Str)) he1 he2
      have hje' := join_len (sep := ("" : Str)) he1 he2
      refine Ex.assignF (v := .str (heldOf ways[i]! nm row)) (fun X h C => ?_) rfl (by walk_at "m.erase") (by walk_at "m.off") ?_
      · rw [hhu]
        refine Ev.bin C (Ev.bin C (Ev.bin C (Ev.sub C (by walk_at "m.ev") (by walk_at "m.ev") (hnm ▸ Op2.sub_Ss hnmi (by omega))) Ev.str (Op2.add_str (by omega))) (Ev.meth C Ev.str (EvArgs.cons ?_ EvArgs.nil) (Op.join (by omega)) meth_join IsOf.str) (Op2.add_str (by rw [Str.length_append]; omega))) Ev.str (Op2.add_str (by simp only [Str.length_append]; omega))
        refine (Ev.compB (ρ' := []) C ((sd.cps.toList.map fun c => PV.str (("\\" : Str) ++ C1 c)).map some) (EvIter.rows (EvIter.str C (Ev.sub C (by walk_at "m.ev") (by walk_at "m.ev") (Op2.sub_list hsL (by omega)))) (r' := (sd.cps.toList.map fun c => PV.str (C1 c)).map fun v => [v]) (by rw [List.map_map]; rfl)) (by walk_at "m.cap") (by walk_at "m.ok") (CompB.map (by simp) fun j v w hv hw X' env' h' C' => ?_) ?_).cast ?_
        · obtain ⟨c, hc, rfl, rfl⟩ := get_map2 hv hw
          exact Ev.bin C' Ev.str (by walk_at "m.ev") (Op2.add_str (by rw [e7]; show 1 + 1 ≤ 10000000; omega))
        · rw [fm_some, List.length_map]
          have : sd.cps.toList.length = sd.length := by simp [Str.length]
          omega
        · rw [fm_some]
          show _ = PV.list ((escS sd).map PV.str)
          unfold escS
          rw [List.map_map]; rfl
      refine Ex.append (v := .str wr) (.inr ⟨fun X h C => Ev.ite (c := ways[i]! == 1) (EvB.cmp C (Ev.sub C (by walk_at "m.ev") (by walk_at "m.ev") (Op2.sub_Ns hwi (by omega))) Ev.nat Op2.eq_nat) (fun hb => ?_) (fun hb => ?_), rfl⟩) (.miss (.miss .hit)) (by rw [List.length_map]; omega) ?_
      · exact (Ev.name C (v := .str (heldOf ways[i]! nm row)) (by walk_at "m.look")).cast (by rw [hwu hb])
      · exact (Ev.bin C (Ev.bin C Ev.str (Ev.sub C (by walk_at "m.ev") (Ev.una C Ev.int Op1.neg) (Op2.sub_list_last hiL)) (Op2.add_str (by omega))) Ev.str (Op2.add_str (by rw [Str.length_append]; omega))).cast (by rw [hwu' hb])
      rw [show (PV.list (List.map PV.str wL ++ [.str wr])) = Ss (wL ++ [wr]) from Ss_snoc.symm]
      exact Ex.done (by walk_at "m.sub")
    · exact Ex.ret (by walk_at "m.e1")) (by intro pm code doc cvs h; obtain ⟨a, b, c, rfl⟩ := len3 h; rfl) (by decide +kernel) rfl
end
end
section
open PySem PySem.Calls PyProof.Rows
namespace FE
open PySem.Float64

theorem log_lt {a b : Nat} (h : 2 ^ a < 2 ^ b) : a < b := (Nat.pow_lt_pow_iff_right (by decide : 1 < 2)).mp h

theorem half_exact {q D : Nat} (hD : 0 < D) : halfEven (q * D) D = q := by
  unfold halfEven
  rw [Nat.mul_div_cancel _ hD, Nat.mul_mod_left]
  dsimp only
  have e1 : decide (2 * 0 > D) = false := decide_eq_false (by omega)
  have e2 : (2 * 0 == D) = false := beq_false_of_ne (by omega)
  rw [e1, e2]
  rfl

noncomputable def expo (n d : Nat) : Int :=
  max (if (shift n d (-((n.log2 : Int) - (d.log2 : Int)))).1 ≥ (shift n d (-((n.log2 : Int) - (d.log2 : Int)))).2 then (n.log2 : Int) - (d.log2 : Int) - 52 else (n.log2 : Int) - (d.log2 : Int) - 53) (-1074)
theorem round_def {n d : Nat} (h : n ≠ 0) {P : Nat} (hP : (2 : Nat) ^ 52 = P) : roundMag n d = min infMag ((expo n d + 1074).toNat * P + halfEven (shift n d (-expo n d)).1 (shift n d (-expo n d)).2) := by
  have hn : (n == 0) = false := beq_false_of_ne h
  unfold roundMag expo
  rw [hn, hP]
  simp only [Bool.false_eq_true, if_false]
theorem round_exact {N D q k : Nat} (hD : 0 < D) (h : N * 2 ^ k = q * D) (h1 : 2 ^ 52 ≤ q) (h2 : q < 2 ^ 53) (hk : k ≤ 1074) : roundMag N D = (1074 - k) * 2 ^ 52 + q := by
  have hP0 : 0 < (2 : Nat) ^ 52 := Nat.pow_pos (by decide)
  have e52 : (2 : Nat) ^ 53 = 2 * 2 ^ 52 := by rw [Nat.pow_succ, Nat.mul_comm]
  have hinf : infMag = 2047 * 2 ^ 52 := rfl
  generalize hP : (2 : Nat) ^ 52 = P at *
  generalize hP3 : (2 : Nat) ^ 53 = P3 at *
  have hk0 : 0 < 2 ^ k := Nat.pow_pos (by decide)
  have hN : N ≠ 0 := by
    intro e
    rw [e, Nat.zero_mul] at h
    have : 0 < q * D := Nat.mul_pos (Nat.lt_of_lt_of_le hP0 h1) hD
    omega
  have p1 := Nat.log2_self_le hN
  have p2 := Nat.lt_log2_self (n := N)
  have r1 := Nat.log2_self_le (Nat.pos_iff_ne_zero.mp hD)
  have r2 := Nat.lt_log2_self (n := D)
  generalize hp : N.log2 = p at p1 p2
  generalize hr : D.log2 = r at r1 r2
  have a1 : p + k < 53 + (r + 1) := log_lt (by
    rw [Nat.pow_add, Nat.pow_add 2 53, hP3]
    calc 2 ^ p * 2 ^ k ≤ N * 2 ^ k := Nat.mul_le_mul_right _ p1
      _ = q * D := h
      _ < P3 * 2 ^ (r + 1) := Nat.mul_lt_mul'' h2 r2)
  have a2 : 52 + r < p + 1 + k := log_lt (by
    rw [Nat.pow_add, Nat.pow_add 2 (p + 1), hP]
    calc P * 2 ^ r ≤ q * D := Nat.mul_le_mul h1 r1
      _ = N * 2 ^ k := h.symm
      _ < 2 ^ (p + 1) * 2 ^ k := (Nat.mul_lt_mul_right hk0).mpr p2)
  have b1 : P * D ≤ N * 2 ^ k := h ▸ Nat.mul_le_mul_right _ h1
  have b2 : N * 2 ^ k < P3 * D := h ▸ (Nat.mul_lt_mul_right hD).mpr h2
  have hsh : shift N D (-(-(k : Int))) = (N * 2 ^ k, D) := by
    unfold shift
    rw [if_pos (by omega)]
    have : (-(-(k : Int))).toNat = k := by omega
    rw [this]
  have key : ∀ e : Int, e = -(k : Int) → min infMag ((e + 1074).toNat * P + halfEven (shift N D (-e)).1 (shift N D (-e)).2) = (1074 - k) * P + q := by
    intro e he
    subst he
    rw [hsh]
    dsimp only
    rw [h, half_exact hD]
    have : (-(k : Int) + 1074).toNat = 1074 - k := by omega
    rw [this]
    refine Nat.min_eq_right ?_
    rw [hinf]
    have h3 : (1074 - k) * P ≤ 1074 * P := Nat.mul_le_mul_right _ (by omega)
    generalize (1074 - k) * P = Z at h3 ⊢
    omega
  rw [round_def hN hP]
  refine key _ ?_
  unfold expo
  rw [hp, hr]
  -- the exponent
  have hcase : p + k = 52 + r ∨ p + k = 53 + r := by omega
  have hge : ∀ l : Int, l = (p : Int) - r → ((shift N D (-l)).1 ≥ (shift N D (-l)).2 ↔ p + k = 52 + r) := by
    intro l hl
    rcases hcase with hc | hc
    · refine ⟨fun _ => hc, fun _ => ?_⟩
      unfold shift
      by_cases h0 : -l ≥ 0
      · rw [if_pos h0]
        show D ≤ N * 2 ^ (-l).toNat
        have : k = 52 + (-l).toNat := by omega
        rw [this, Nat.pow_add, hP] at b1
        have b1' : P * D ≤ P * (N * 2 ^ (-l).toNat) := by rw [Nat.mul_left_comm]; exact b1
        exact Nat.le_of_mul_le_mul_left b1' (by rw [← hP]; exact Nat.pow_pos (by decide))
      · rw [if_neg h0]
        show D * 2 ^ (- -l).toNat ≤ N
        have : 52 = (- -l).toNat + k := by omega
        rw [← hP, this, Nat.pow_add] at b1
        have b1' : 2 ^ k * (D * 2 ^ (- -l).toNat) ≤ 2 ^ k * N := by
          rw [Nat.mul_comm (2 ^ k) N]
          refine Nat.le_trans (Nat.le_of_eq ?_) b1
          ac_rfl
        exact Nat.le_of_mul_le_mul_left b1' hk0
    · refine ⟨fun hh => ?_, fun hh => by omega⟩
      exfalso
      unfold shift at hh
      by_cases h0 : -l ≥ 0
      · rw [if_pos h0] at hh
        have hh' : D ≤ N * 2 ^ (-l).toNat := hh
        have : k = 53 + (-l).toNat := by omega
        rw [this, Nat.pow_add, hP3] at b2
        have b2' : P3 * (N * 2 ^ (-l).toNat) < P3 * D := by rw [Nat.mul_left_comm]; exact b2
        exact absurd (Nat.lt_of_mul_lt_mul_left b2') (Nat.not_lt.mpr hh')
      · rw [if_neg h0] at hh
        have hh' : D * 2 ^ (- -l).toNat ≤ N := hh
        have : 53 = (- -l).toNat + k := by omega
        rw [← hP3, this, Nat.pow_add] at b2
        have b2' : 2 ^ k * N < 2 ^ k * (D * 2 ^ (- -l).toNat) := by
          rw [Nat.mul_comm (2 ^ k) N]
          refine Nat.lt_of_lt_of_le b2 (Nat.le_of_eq ?_)
          ac_rfl
        exact absurd (Nat.lt_of_mul_lt_mul_left b2') (Nat.not_lt.mpr hh')
  have hg := hge _ rfl
  rcases hcase with hc | hc
  · rw [if_pos (hg.mpr hc)]
    omega
  · rw [if_neg (fun q => by have := hg.mp q; omega)]
    omega
end FE
end
section
open PySem PySem.Calls PyProof.Rows
set_option maxRecDepth 10000
namespace FE
open PySem.Float64

theorem s_div {neg : Bool} {E : Nat} (h : E < 2048) : ((if neg then 2048 else 0) + E) / 2048 = if neg then 1 else 0 := by
  cases neg
  · show (0 + E) / 2048 = 0
    rw [Nat.zero_add]; exact Nat.div_eq_of_lt h
  · show (2048 + E) / 2048 = 1
    rw [Nat.add_div_left _ (by decide), Nat.div_eq_of_lt h]
theorem s_mod {neg : Bool} {E : Nat} (h : E < 2048) : ((if neg then 2048 else 0) + E) % 2048 = E := by
  cases neg
  · show (0 + E) % 2048 = E
    rw [Nat.zero_add]; exact Nat.mod_eq_of_lt h
  · show (2048 + E) % 2048 = E
    rw [Nat.add_mod_left]; exact Nat.mod_eq_of_lt h
theorem s_sum {neg : Bool} {P m f : Nat} : (if neg = true then 2048 * P else 0) + (m * P + (P + f)) = P * ((if neg then 2048 else 0) + (m + 1)) + f := by
  cases neg
  · show 0 + (m * P + (P + f)) = P * (0 + (m + 1)) + f
    rw [Nat.zero_add, Nat.zero_add, Nat.mul_add, Nat.mul_one, Nat.mul_comm P m, Nat.add_assoc]
  · show 2048 * P + (m * P + (P + f)) = P * (2048 + (m + 1)) + f
    rw [Nat.mul_add, Nat.mul_add, Nat.mul_one, Nat.mul_comm P 2048, Nat.mul_comm P m, Nat.add_assoc, Nat.add_assoc]
theorem dec_pack {neg : Bool} {q k : Nat} (h1 : 2 ^ 52 ≤ q) (h2 : q < 2 ^ 53) (hk : k ≤ 1074) (hk1 : 1 ≤ k) : decode (pack neg ((1074 - k) * 2 ^ 52 + q)) = .fin neg q (-(k : Int)) := by
  have e52 : (2 : Nat) ^ 53 = 2 * 2 ^ 52 := by rw [Nat.pow_succ, Nat.mul_comm]
  have e63 : (2 : Nat) ^ 63 = 2048 * 2 ^ 52 := by rw [show (63 : Nat) = 11 + 52 from rfl, Nat.pow_add]
  have e64 : (2 : Nat) ^ 64 = 4096 * 2 ^ 52 := by rw [show (64 : Nat) = 12 + 52 from rfl, Nat.pow_add]
  have hm : 1074 - k ≤ 1073 := Nat.sub_le_sub_left hk1 1074
  have hE : 1075 - k = (1074 - k) + 1 := Nat.succ_sub hk
  have hE2 : 1075 - k < 2047 := by rw [hE]; exact Nat.lt_of_le_of_lt (Nat.succ_le_succ hm) (by decide)
  have hx : (pack neg ((1074 - k) * 2 ^ 52 + q)).toNat = (if neg then 2 ^ 63 else 0) + ((1074 - k) * 2 ^ 52 + q) := by
    unfold pack
    show ((if neg then 2 ^ 63 else 0) + ((1074 - k) * 2 ^ 52 + q)).toUInt64.toNat = _
    rw [Nat.toUInt64_eq, UInt64.toNat_ofNat']
    refine Nat.mod_eq_of_lt ?_
    rw [e64, e63]
    rw [e52] at h2
    generalize (2 : Nat) ^ 52 = P at *
    have h4 : (if neg = true then 2048 * P else 0) ≤ 2048 * P := by
      split
      · exact Nat.le_refl _
      · exact Nat.zero_le _
    refine Nat.lt_of_lt_of_le (Nat.add_lt_add_of_le_of_lt h4 (Nat.add_lt_add_of_le_of_lt (Nat.mul_le_mul_right P hm) h2)) ?_
    rw [← Nat.add_mul, ← Nat.add_mul]
    exact Nat.mul_le_mul_right _ (by decide)
  unfold decode
  rw [hx]
  have hP0 : 0 < (2 : Nat) ^ 52 := Nat.pow_pos (by decide)
  obtain ⟨f, hf⟩ : ∃ f, q = 2 ^ 52 + f := ⟨q - 2 ^ 52, (Nat.add_sub_cancel' h1).symm⟩
  subst hf
  rw [e63]
  rw [e52] at h2
  generalize hP : (2 : Nat) ^ 52 = P at *
  have hf : f < P := by
    rw [Nat.two_mul] at h2
    exact Nat.lt_of_add_lt_add_left h2
  rw [s_sum, ← hE]
  have d1 : (P * ((if neg then 2048 else 0) + (1075 - k)) + f) / P = (if neg then 2048 else 0) + (1075 - k) := by
    rw [Nat.mul_add_div hP0, Nat.div_eq_of_lt hf, Nat.add_zero]
  have d2 : (P * ((if neg then 2048 else 0) + (1075 - k)) + f) % P = f := by rw [Nat.mul_add_mod, Nat.mod_eq_of_lt hf]
  have hE3 : 1075 - k < 2048 := Nat.lt_succ_of_lt hE2
  have d3 : (P * ((if neg then 2048 else 0) + (1075 - k)) + f) / (2048 * P) = if neg then 1 else 0 := by
    rw [Nat.mul_comm 2048 P, ← Nat.div_div_eq_div_mul, d1, s_div hE3]
  rw [d1, d2, d3, s_mod hE3]
  have g1 : (1075 - k == 2047) = false := beq_false_of_ne (Nat.ne_of_lt hE2)
  have g2 : (1075 - k == 0) = false := beq_false_of_ne (by rw [hE]; exact Nat.succ_ne_zero _)
  have g3 : ((if neg = true then 1 else 0) == 1) = neg := by cases neg <;> rfl
  dsimp only
  rw [g1, g2, g3, if_neg Bool.false_ne_true, if_neg Bool.false_ne_true]
  congr 1
  omega +splitDisjunctions

/-- n / 512 -/
noncomputable def EF (n : Int) : UInt64 := ofFrac (decide (n < 0)) n.natAbs 512
/-- x is n / 512, with this sign -/
noncomputable def Rp (x : UInt64) (n : Int) (s : Bool) : Prop := ∃ q k : Nat, decode x = .fin s q (-(k : Int)) ∧ sgn s q * 512 = n * 2 ^ k
theorem exact_of {a : Nat} (h0 : 0 < a) (h : a < 2 ^ 40) : ∃ q k : Nat, a * 2 ^ k = q * 512 ∧ 2 ^ 52 ≤ q ∧ q < 2 ^ 53 ∧ k ≤ 1074 ∧ 1 ≤ k := by
  have p1 := Nat.log2_self_le (Nat.pos_iff_ne_zero.mp h0)
  have p2 := Nat.lt_log2_self (n := a)
  have hL : a.log2 < 40 := (Nat.log2_lt (Nat.pos_iff_ne_zero.mp h0)).mpr h
  generalize a.log2 = L at *
  refine ⟨a * 2 ^ (52 - L), 61 - L, ?_, ?_, ?_, by omega, by omega⟩
  · have : 61 - L = (52 - L) + 9 := by omega
    rw [this, Nat.pow_add, Nat.mul_assoc]
  · have : (52 : Nat) = L + (52 - L) := by omega
    calc 2 ^ 52 = 2 ^ (L + (52 - L)) := by rw [← this]
      _ = 2 ^ L * 2 ^ (52 - L) := Nat.pow_add ..
      _ ≤ a * 2 ^ (52 - L) := Nat.mul_le_mul_right _ p1
  · have : (53 : Nat) = (L + 1) + (52 - L) := by omega
    calc a * 2 ^ (52 - L) < 2 ^ (L + 1) * 2 ^ (52 - L) := (Nat.mul_lt_mul_right (Nat.pow_pos (by decide))).mpr p2
      _ = 2 ^ ((L + 1) + (52 - L)) := (Nat.pow_add ..).symm
      _ = 2 ^ 53 := by rw [← this]
theorem round_zero (D : Nat) : roundMag 0 D = 0 := by
  unfold roundMag
  rw [if_pos (beq_self_eq_true 0)]
theorem EF_zero : EF 0 = 0 := by decide +kernel
theorem Rp.zero : Rp 0 0 false := ⟨0, 1074, by kernel_rfl, by rw [Int.zero_mul]; rfl⟩
theorem EF_rp {n : Int} (h : n.natAbs < 2 ^ 40) : Rp (EF n) n (decide (n < 0)) := by
  by_cases h0 : n = 0
  · subst h0
    rw [EF_zero]
    exact Rp.zero
  · obtain ⟨q, k, e, h1, h2, h3, h4⟩ := exact_of (a := n.natAbs) (by omega) h
    refine ⟨q, k, ?_, ?_⟩
    · unfold EF ofFrac
      rw [round_exact (by decide) e h1 h2 h3]
      exact dec_pack h1 h2 h3 h4
    · have e' : (n.natAbs : Int) * 2 ^ k = q * 512 := by exact_mod_cast e
      unfold sgn
      by_cases hn : n < 0
      · rw [if_pos (decide_eq_true hn)]
        have : n = -(n.natAbs : Int) := by omega
        rw [this, Int.neg_mul, Int.neg_mul, e']
      · rw [if_neg (by simpa using hn)]
        have : (n.natAbs : Int) = n := by omega
        rw [← e', this]
theorem frac_EF {N D : Nat} {n : Int} {s : Bool} (hD : 0 < D) (h : N * 512 = n.natAbs * D) (hn : n.natAbs < 2 ^ 40) (hs : s = decide (n < 0)) : ofFrac s N D = EF n := by
  subst hs
  unfold EF ofFrac
  by_cases h0 : n.natAbs = 0
  · rw [h0, Nat.zero_mul] at h
    have : N = 0 := by omega
    rw [this, h0, round_zero, round_zero]
  · obtain ⟨q, k, e, h1, h2, h3, h4⟩ := exact_of (a := n.natAbs) (by omega) hn
    rw [round_exact (D := 512) (by decide) e h1 h2 h3, round_exact hD ?_ h1 h2 h3]
    have : 512 * (N * 2 ^ k) = 512 * (q * D) := by
      calc 512 * (N * 2 ^ k) = (N * 512) * 2 ^ k := by ac_rfl
        _ = n.natAbs * D * 2 ^ k := by rw [h]
        _ = (n.natAbs * 2 ^ k) * D := by ac_rfl
        _ = q * 512 * D := by rw [e]
        _ = 512 * (q * D) := by ac_rfl
    exact Nat.eq_of_mul_eq_mul_left (by decide) this
theorem shift_neg (m d k : Nat) : shift m d (-(k : Int)) = (m, d * 2 ^ k) := by
  unfold shift
  by_cases h : k = 0
  · subst h; simp
  · rw [if_neg (by omega)]
    have : (- -(k : Int)).toNat = k := by omega
    rw [this]
theorem bin_EF {m k : Nat} {n : Int} {s : Bool} (h : m * 512 = n.natAbs * 2 ^ k) (hn : n.natAbs < 2 ^ 40) (hs : s = decide (n < 0)) : ofBin s m (-(k : Int)) = EF n := by
  unfold ofBin
  rw [shift_neg]
  exact frac_EF (by rw [Nat.one_mul]; exact Nat.pow_pos (by decide)) (by rw [Nat.one_mul]; exact h) hn hs
theorem mul_EF {a b c : Nat} (ha : a < 2 ^ 40) (hb : b < 2 ^ 40) (h : a * b = 512 * c) (hc : c < 2 ^ 40) : mul (EF a) (EF b) = EF c := by
  obtain ⟨m, k, d1, e1⟩ := EF_rp (n := (a : Int)) (by simpa using ha)
  obtain ⟨m', k', d2, e2⟩ := EF_rp (n := (b : Int)) (by simpa using hb)
  have s1 : decide ((a : Int) < 0) = false := decide_eq_false (by omega)
  have s2 : decide ((b : Int) < 0) = false := decide_eq_false (by omega)
  rw [s1] at d1 e1
  rw [s2] at d2 e2
  unfold mul
  rw [d1, d2]
  show ofBin (false != false) (m * m') (-(k : Int) + -(k' : Int)) = _
  have : (-(k : Int) + -(k' : Int)) = -((k + k' : Nat) : Int) := by omega
  rw [this]
  refine bin_EF ?_ (by simpa using hc) (by simp)
  have e1' : m * 512 = a * 2 ^ k := by
    have : (m : Int) * 512 = a * 2 ^ k := e1
    exact_mod_cast this
  have e2' : m' * 512 = b * 2 ^ k' := by
    have : (m' : Int) * 512 = b * 2 ^ k' := e2
    exact_mod_cast this
  rw [Int.natAbs_natCast]
  have : 512 * (m * m' * 512) = 512 * (c * 2 ^ (k + k')) := by
    calc 512 * (m * m' * 512) = (m * 512) * (m' * 512) := by ac_rfl
      _ = (a * 2 ^ k) * (b * 2 ^ k') := by rw [e1', e2']
      _ = (a * b) * (2 ^ k * 2 ^ k') := by ac_rfl
      _ = 512 * (c * 2 ^ (k + k')) := by rw [h, Nat.pow_add]; ac_rfl
  exact Nat.eq_of_mul_eq_mul_left (by decide) this
theorem minK (k k' : Nat) : min (-(k : Int)) (-(k' : Int)) = -((max k k' : Nat) : Int) := by
  rcases Nat.le_total k k' with h | h
  · rw [Nat.max_eq_right h, Int.min_eq_right (Int.neg_le_neg (Int.ofNat_le.mpr h))]
  · rw [Nat.max_eq_left h, Int.min_eq_left (Int.neg_le_neg (Int.ofNat_le.mpr h))]
theorem tK {k K : Nat} (h : k ≤ K) : (-(k : Int) - -((K : Nat) : Int)).toNat = K - k := by
  rw [Int.sub_neg, Int.add_comm, ← Int.sub_eq_add_neg, ← Int.ofNat_sub h, Int.toNat_natCast]
theorem sgn_mul (s : Bool) (m j : Nat) : sgn s (m * 2 ^ j) = sgn s m * 2 ^ j := by
  unfold sgn
  cases s <;> simp [Int.neg_mul]
theorem sgn_up {s : Bool} {m k K : Nat} {a : Int} (e : sgn s m * 512 = a * 2 ^ k) (h : k ≤ K) : sgn s (m * 2 ^ (K - k)) * 512 = a * 2 ^ K := by
  rw [sgn_mul, Int.mul_assoc, Int.mul_comm (2 ^ (K - k)), ← Int.mul_assoc, e, Int.mul_assoc, ← Int.pow_add, Nat.add_sub_cancel' h]
theorem add_Rp {x y : UInt64} {a b : Int} {s t : Bool} (hx : Rp x a s) (hy : Rp y b t) (hz : a + b = 0 → (s && t) = false) (h : (a + b).natAbs < 2 ^ 40) : add x y = EF (a + b) := by
  obtain ⟨m, k, d1, e1⟩ := hx
  obtain ⟨m', k', d2, e2⟩ := hy
  unfold add
  rw [d1, d2]
  dsimp only [align]
  rw [minK k k', tK (Nat.le_max_left ..), tK (Nat.le_max_right ..)]
  have f1 := sgn_up e1 (Nat.le_max_left k k')
  have f2 := sgn_up e2 (Nat.le_max_right k k')
  generalize sgn s (m * 2 ^ (max k k' - k)) = p at f1 ⊢
  generalize sgn t (m' * 2 ^ (max k k' - k')) = q at f2 ⊢
  generalize max k k' = K at f1 f2 ⊢
  have f3 : (p + q) * 512 = (a + b) * 2 ^ K := by rw [Int.add_mul, Int.add_mul, f1, f2]
  have hK : (0 : Int) < 2 ^ K := Int.pow_pos (by decide)
  by_cases h0 : a + b = 0
  · have : p + q = 0 := by rw [h0, Int.zero_mul] at f3; omega
    rw [this, h0, hz h0, if_pos (by decide), EF_zero]
    decide +kernel
  · have hpq : ¬ p + q = 0 := by
      intro e
      rw [e, Int.zero_mul] at f3
      rcases Int.mul_eq_zero.mp f3.symm with q | q
      · exact h0 q
      · omega
    have e0 : (p + q == 0) = false := beq_false_of_ne hpq
    rw [e0]
    simp only [Bool.false_eq_true, if_false]
    refine bin_EF ?_ h ?_
    · have := congrArg Int.natAbs f3
      rw [Int.natAbs_mul, Int.natAbs_mul] at this
      have e2k : ((2 : Int) ^ K).natAbs = 2 ^ K := by rw [Int.natAbs_pow]; rfl
      rw [e2k] at this
      exact this
    · rw [decide_eq_decide]
      constructor
      · intro hlt
        by_cases hh : a + b < 0
        · exact hh
        · have : 0 ≤ (a + b) * 2 ^ K := Int.mul_nonneg (by omega) (by omega)
          omega
      · intro hlt
        have : (a + b) * 2 ^ K < 0 := Int.mul_neg_of_neg_of_pos hlt hK
        omega
theorem add_EF {a b : Int} (ha : a.natAbs < 2 ^ 30) (hb : b.natAbs < 2 ^ 30) : add (EF a) (EF b) = EF (a + b) := by
  refine add_Rp (EF_rp (by omega +splitDisjunctions)) (EF_rp (by omega +splitDisjunctions)) (fun h => ?_) (by omega +splitDisjunctions)
  by_cases h1 : a < 0
  · have : ¬ b < 0 := by omega +splitDisjunctions
    simp [this]
  · simp [h1]
theorem sub_EF {a b : Int} (ha : a.natAbs < 2 ^ 30) (hb : b.natAbs < 2 ^ 30) : sub (EF a) (EF b) = EF (a - b) := by
  unfold sub
  have hb' : Rp (neg (EF b)) (-b) (!decide (b < 0)) := by
    obtain ⟨q, k, d, e⟩ := EF_rp (n := b) (by omega +splitDisjunctions)
    refine ⟨q, k, neg_decode d, ?_⟩
    rw [Int.neg_mul, ← e]
    unfold sgn
    cases decide (b < 0) <;> simp [Int.neg_mul]
  rw [Int.sub_eq_add_neg]
  refine add_Rp (EF_rp (by omega +splitDisjunctions)) hb' (fun h => ?_) (by omega +splitDisjunctions)
  have : a = b := by omega +splitDisjunctions
  subst this
  by_cases h1 : a < 0 <;> simp [h1]
theorem cmp_EF {a b : Int} (ha : a.natAbs < 2 ^ 40) (hb : b.natAbs < 2 ^ 40) : cmp (EF a) (EF b) = some (compare a b) := by
  obtain ⟨m, k, d1, e1⟩ := EF_rp ha
  obtain ⟨m', k', d2, e2⟩ := EF_rp hb
  unfold cmp
  rw [d1, d2]
  dsimp only [align]
  rw [minK k k', tK (Nat.le_max_left ..), tK (Nat.le_max_right ..)]
  have f1 := sgn_up e1 (Nat.le_max_left k k')
  have f2 := sgn_up e2 (Nat.le_max_right k k')
  generalize sgn (decide (a < 0)) (m * 2 ^ (max k k' - k)) = p at f1 ⊢
  generalize sgn (decide (b < 0)) (m' * 2 ^ (max k k' - k')) = q at f2 ⊢
  generalize max k k' = K at f1 f2 ⊢
  have hK : (0 : Int) < 2 ^ K := Int.pow_pos (by decide)
  refine congrArg some ?_
  rcases Int.lt_trichotomy a b with h | h | h
  · have h1 : a * 2 ^ K < b * 2 ^ K := Int.mul_lt_mul_of_pos_right h hK
    rw [show compare a b = .lt from compareOfLessAndEq_eq_lt.mpr h, show compare p q = .lt from compareOfLessAndEq_eq_lt.mpr (by omega)]
  · subst h
    have : p = q := by omega
    subst this
    simp
  · have h1 : b * 2 ^ K < a * 2 ^ K := Int.mul_lt_mul_of_pos_right h hK
    have g1 : compare a b = .gt := by unfold compare; show compareOfLessAndEq a b = _; unfold compareOfLessAndEq; rw [if_neg (by omega), if_neg (by omega)]
    have g2 : compare p q = .gt := by unfold compare; show compareOfLessAndEq p q = _; unfold compareOfLessAndEq; rw [if_neg (by omega), if_neg (by omega)]
    rw [g1, g2]
end FE
end
section
open PySem PySem.Calls PyProof.Rows
set_option maxRecDepth 10000
namespace FE
open PySem.Float64

theorem EF_nat {b : Nat} (hb : b < 2 ^ 40) : ∃ m k : Nat, decode (EF b) = .fin false m (-(k : Int)) ∧ m * 512 = b * 2 ^ k := by
  obtain ⟨m, k, d, e⟩ := EF_rp (n := (b : Int)) (by simpa using hb)
  have s1 : decide ((b : Int) < 0) = false := decide_eq_false (by omega)
  rw [s1] at d e
  refine ⟨m, k, d, ?_⟩
  have : (m : Int) * 512 = b * 2 ^ k := e
  exact_mod_cast this
theorem EF_abs {a : Int} (ha : a.natAbs < 2 ^ 40) : ∃ m k : Nat, decode (EF a) = .fin (decide (a < 0)) m (-(k : Int)) ∧ m * 512 = a.natAbs * 2 ^ k := by
  obtain ⟨m, k, d, e⟩ := EF_rp ha
  refine ⟨m, k, d, ?_⟩
  have := congrArg Int.natAbs e
  rw [Int.natAbs_mul, Int.natAbs_mul, Int.natAbs_pow] at this
  have hs : (sgn (decide (a < 0)) m).natAbs = m := by unfold sgn; cases decide (a < 0) <;> simp
  rw [hs] at this
  exact this
theorem nz {b m k : Nat} (hb : 0 < b) (e : m * 512 = b * 2 ^ k) : m ≠ 0 := by
  intro h
  rw [h, Nat.zero_mul] at e
  have : 0 < b * 2 ^ k := Nat.mul_pos hb (Nat.pow_pos (by decide))
  omega
theorem isZero_EF {a : Int} (ha : a.natAbs < 2 ^ 40) (h : a ≠ 0) : isZero (EF a) = false := by
  obtain ⟨m, k, d, e⟩ := EF_abs ha
  have hm : m ≠ 0 := nz (by omega) e
  unfold isZero
  rw [d]
  cases m with
  | zero => exact absurd rfl hm
  | succ m => rfl
theorem isInf_EF {a : Int} (ha : a.natAbs < 2 ^ 40) : isInf (EF a) = false := by
  obtain ⟨m, k, d, e⟩ := EF_abs ha
  unfold isInf
  rw [d]
theorem ofInt_EF {i : Nat} (h : i < 2 ^ 20) : ofInt (i : Int) = EF ((512 * i : Nat) : Int) := by
  unfold ofInt
  refine frac_EF (by decide) ?_ ?_ ?_
  · simp only [Int.natAbs_natCast]; omega
  · simp only [Int.natAbs_natCast]; omega
  · rw [decide_eq_decide]; omega
theorem div_EF {a c : Int} {b : Nat} (hb0 : 0 < b) (hb : b < 2 ^ 40) (ha : a.natAbs < 2 ^ 40) (hc : c.natAbs < 2 ^ 40) (h : a * 512 = c * b) : div (EF a) (EF b) = EF c := by
  obtain ⟨m, k, d1, e1⟩ := EF_abs ha
  obtain ⟨m', k', d2, e2⟩ := EF_nat hb
  have hm' := nz hb0 e2
  have hn : a.natAbs * 512 = c.natAbs * b := by
    have := congrArg Int.natAbs h
    rw [Int.natAbs_mul, Int.natAbs_mul] at this
    simpa using this
  have hsg : (decide (a < 0) != false) = decide (c < 0) := by
    rw [Bool.bne_false, decide_eq_decide]
    constructor
    · intro q
      by_cases hh : c < 0
      · exact hh
      · have : 0 ≤ c * b := Int.mul_nonneg (by omega) (by omega)
        omega
    · intro q
      have : c * b < 0 := Int.mul_neg_of_neg_of_pos q (by omega)
      omega
  unfold div
  rw [d1, d2]
  have hk0 : (m' == 0) = false := beq_false_of_ne hm'
  simp only [hk0, Bool.false_eq_true, if_false]
  rw [hsg]
  have hpos : 0 < m' := Nat.pos_of_ne_zero hm'
  by_cases hk : k ≤ k'
  · have es : shift m m' (-(k : Int) - -(k' : Int)) = (m * 2 ^ (k' - k), m') := by
      unfold shift
      rw [if_pos (by omega)]
      have : (-(k : Int) - -(k' : Int)).toNat = k' - k := by omega
      rw [this]
    rw [es]
    refine frac_EF hpos ?_ hc rfl
    have e3 : m * 2 ^ (k' - k) * 512 = a.natAbs * 2 ^ k' := by
      have : (2 : Nat) ^ k' = 2 ^ k * 2 ^ (k' - k) := by rw [← Nat.pow_add, Nat.add_sub_cancel' hk]
      rw [this, ← Nat.mul_assoc, ← e1]; ac_rfl
    have e4 : 512 * (c.natAbs * m') = 512 * (a.natAbs * 2 ^ k') := by
      calc 512 * (c.natAbs * m') = c.natAbs * (m' * 512) := by ac_rfl
        _ = c.natAbs * b * 2 ^ k' := by rw [e2]; ac_rfl
        _ = 512 * (a.natAbs * 2 ^ k') := by rw [← hn]; ac_rfl
    rw [e3]
    exact (Nat.eq_of_mul_eq_mul_left (by decide) e4).symm
  · have es : shift m m' (-(k : Int) - -(k' : Int)) = (m, m' * 2 ^ (k - k')) := by
      unfold shift
      rw [if_neg (by omega)]
      have : (-(-(k : Int) - -(k' : Int))).toNat = k - k' := by omega
      rw [this]
    rw [es]
    refine frac_EF (Nat.mul_pos hpos (Nat.pow_pos (by decide))) ?_ hc rfl
    have e4 : 512 * (c.natAbs * (m' * 2 ^ (k - k'))) = 512 * (a.natAbs * 2 ^ k) := by
      have : (2 : Nat) ^ k = 2 ^ k' * 2 ^ (k - k') := by rw [← Nat.pow_add, Nat.add_sub_cancel' (Nat.le_of_not_le hk)]
      calc 512 * (c.natAbs * (m' * 2 ^ (k - k'))) = c.natAbs * (m' * 512) * 2 ^ (k - k') := by ac_rfl
        _ = c.natAbs * b * (2 ^ k' * 2 ^ (k - k')) := by rw [e2]; ac_rfl
        _ = 512 * (a.natAbs * 2 ^ k) := by rw [← hn, ← this]; ac_rfl
    rw [e1]
    exact (Nat.eq_of_mul_eq_mul_left (by decide) e4).symm
theorem trunc_EF {n : Nat} (h : n < 2 ^ 40) : ∃ m k : Nat, decode (EF n) = .fin false m (-(k : Int)) ∧ truncOf false m (-(k : Int)) = ((n / 512 : Nat) : Int) := by
  obtain ⟨m, k, d, e⟩ := EF_nat h
  refine ⟨m, k, d, ?_⟩
  have hq : m / 2 ^ k = n / 512 := by
    have h1 : m * 512 / (2 ^ k * 512) = m / 2 ^ k := Nat.mul_div_mul_right _ _ (by decide)
    have h2 : n * 2 ^ k / (512 * 2 ^ k) = n / 512 := Nat.mul_div_mul_right _ _ (Nat.pow_pos (by decide))
    rw [← h1, ← h2, e, Nat.mul_comm (2 ^ k) 512]
  unfold truncOf floorOf
  simp only [Bool.false_eq_true, if_false]
  by_cases hk : k = 0
  · subst hk
    rw [if_pos (by decide)]
    have : m = n / 512 := by simpa using hq
    rw [← this]
    show (m : Int) * 2 ^ 0 = m
    simp
  · rw [if_neg (by omega)]
    have : (-(-(k : Int))).toNat = k := by omega
    rw [this]
    show (m : Int).fdiv (2 ^ k) = _
    rw [← hq, Int.fdiv_eq_ediv_of_nonneg _ (Int.le_of_lt (Int.pow_pos (by decide)))]
    rw [Int.natCast_ediv]
    simp
theorem fmod_1 {a : Int} (ha : a.natAbs < 2 ^ 40) : ∃ r K : Nat, fmod (EF a) (EF 512) = ofBin (decide (a < 0)) r (-(K : Int)) ∧ r * 512 = (a.natAbs % 512) * 2 ^ K := by
  obtain ⟨m, k, d1, e1⟩ := EF_abs ha
  obtain ⟨m', k', d2, e2⟩ := EF_nat (b := 512) (by decide)
  have hm' := nz (by decide) e2
  have em : m' = 2 ^ k' := by omega
  refine ⟨(m * 2 ^ (max k k' - k)) % 2 ^ max k k', max k k', ?_, ?_⟩
  · unfold fmod
    have d2' : decode (EF 512) = .fin false m' (-(k' : Int)) := d2
    rw [d1, d2']
    have hk0 : (m' == 0) = false := beq_false_of_ne hm'
    simp only [hk0, Bool.false_eq_true, if_false, align]
    have hg := minK k k'
    rw [hg]
    have t1 := tK (Nat.le_max_left k k')
    have t2 := tK (Nat.le_max_right k k')
    rw [t1, t2]
    have u1 : (sgn false (m * 2 ^ (max k k' - k))).toNat = m * 2 ^ (max k k' - k) := by
      show ((m * 2 ^ (max k k' - k) : Nat) : Int).toNat = _
      exact Int.toNat_natCast _
    have u2 : (sgn false (m' * 2 ^ (max k k' - k'))).toNat = 2 ^ max k k' := by
      show ((m' * 2 ^ (max k k' - k') : Nat) : Int).toNat = _
      rw [Int.toNat_natCast, em, ← Nat.pow_add, Nat.add_sub_cancel' (Nat.le_max_right ..)]
    rw [u1, u2]
  · have e3 : m * 2 ^ (max k k' - k) * 512 = a.natAbs * 2 ^ max k k' := by
      have : (2 : Nat) ^ max k k' = 2 ^ k * 2 ^ (max k k' - k) := by rw [← Nat.pow_add, Nat.add_sub_cancel' (Nat.le_max_left ..)]
      rw [this, ← Nat.mul_assoc, ← e1]; ac_rfl
    rw [← Nat.mul_mod_mul_right, e3, Nat.mul_comm (2 ^ max k k') 512, Nat.mul_mod_mul_right]
theorem mod_1 {a : Int} (ha : a.natAbs < 2 ^ 30) : (divmod (EF a) (EF 512)).2 = EF (a % 512) := by
  obtain ⟨r, K, hf, hr⟩ := fmod_1 (a := a) (by omega)
  by_cases h0 : a.natAbs % 512 = 0
  · have hr0 : r = 0 := by rw [h0, Nat.zero_mul] at hr; omega
    subst hr0
    have hz : fmod (EF a) (EF 512) = pack (decide (a < 0)) 0 := by
      rw [hf]
      unfold ofBin
      rw [shift_neg]
      show ofFrac _ 0 _ = _
      unfold ofFrac
      rw [round_zero]
    have hz2 : isZero (pack (decide (a < 0)) 0) = true := by cases decide (a < 0) <;> decide +kernel
    have hc : copysign (zero false) (EF 512) = 0 := by decide +kernel
    have e0 : a % 512 = 0 := by omega
    unfold divmod
    rw [hz]
    simp only [hz2, if_true, hc]
    rw [e0, EF_zero]
  · have hm : fmod (EF a) (EF 512) = EF (if a < 0 then -((a.natAbs % 512 : Nat) : Int) else ((a.natAbs % 512 : Nat) : Int)) := by
      rw [hf]
      refine bin_EF ?_ ?_ ?_
      · rw [hr]; congr 1; split <;> omega
      · split <;> omega
      · rw [decide_eq_decide]; split <;> omega
    generalize hc : (if a < 0 then -((a.natAbs % 512 : Nat) : Int) else ((a.natAbs % 512 : Nat) : Int)) = c at hm
    have hcn : c.natAbs < 512 := by rw [← hc]; split <;> omega
    have hc0 : c ≠ 0 := by rw [← hc]; split <;> omega
    have z1 : isZero (EF c) = false := isZero_EF (by omega) hc0
    have hz : zero false = EF 0 := by decide +kernel
    have l1 : lt (EF 512) (zero false) = false := by
      unfold lt
      rw [hz, cmp_EF (by decide) (by decide)]
      decide
    have l2 : lt (EF c) (zero false) = decide (c < 0) := by
      unfold lt
      rw [hz, cmp_EF (by omega) (by decide)]
      by_cases hh : c < 0
      · rw [show compare c 0 = .lt from compareOfLessAndEq_eq_lt.mpr hh, decide_eq_true hh]; rfl
      · have g1 : compare c 0 = .gt := by unfold compare; show compareOfLessAndEq c 0 = _; unfold compareOfLessAndEq; rw [if_neg hh, if_neg hc0]
        rw [g1, decide_eq_false hh]; rfl
    unfold divmod
    rw [hm]
    simp only [z1, l1, l2, Bool.false_eq_true, if_false]
    by_cases hh : c < 0
    · rw [decide_eq_true hh]
      have ha0 : a < 0 := by rw [← hc] at hh; split at hh <;> omega
      rw [if_pos ha0] at hc
      show add (EF c) (EF 512) = _
      rw [add_EF (by omega) (by decide)]
      congr 1
      omega
    · rw [decide_eq_false hh]
      have ha0 : ¬ a < 0 := by rw [← hc] at hh; split at hh <;> omega
      rw [if_neg ha0] at hc
      show EF c = _
      congr 1
      omega
end FE
end
section
open PySem PySem.Calls PyProof.Rows
set_option maxRecDepth 10000
open FE
noncomputable abbrev Fl (n : Int) : PV := .float (EF n)
section
variable {W : Wd} {n : Nat}
theorem Op2.mulF {a b c : Nat} (h : a * b = 512 * c) (ha : a < 2 ^ 30) (hb : b < 2 ^ 30) (hc : c < 2 ^ 30) (h0 : 0 < W.lo := by assumption) : Op2 W n (binaryOp .Mult) (Fl a) (Fl b) (Fl c) := fun A X s ca cb Q E O ra rb p => by
  obtain ⟨t, rfl, _⟩ := Rep.floatI ra
  obtain ⟨u, rfl, _⟩ := Rep.floatI rb
  refine AutoFloatOps.mul_0 ?_
  rw [mul_EF (by omega) (by omega) h (by omega)]
  exact p.at1 O.lo (.float _ _ (Nat.lt_of_lt_of_le h0 O.lo))
theorem Op2.addF {a b : Int} (ha : a.natAbs < 2 ^ 30) (hb : b.natAbs < 2 ^ 30) (h0 : 0 < W.lo := by assumption) : Op2 W n (binaryOp .Add) (Fl a) (Fl b) (Fl (a + b)) := fun A X s ca cb Q E O ra rb p => by
  obtain ⟨t, rfl, _⟩ := Rep.floatI ra
  obtain ⟨u, rfl, _⟩ := Rep.floatI rb
  refine AutoFloatOps.add_0 ?_
  rw [add_EF ha hb]
  exact p.at1 O.lo (.float _ _ (Nat.lt_of_lt_of_le h0 O.lo))
theorem Op2.subF {a b : Int} (ha : a.natAbs < 2 ^ 30) (hb : b.natAbs < 2 ^ 30) (h0 : 0 < W.lo := by assumption) : Op2 W n (binaryOp .Sub) (Fl a) (Fl b) (Fl (a - b)) := fun A X s ca cb Q E O ra rb p => by
  obtain ⟨t, rfl, _⟩ := Rep.floatI ra
  obtain ⟨u, rfl, _⟩ := Rep.floatI rb
  refine AutoFloatOps.sub_0 ?_
  rw [sub_EF ha hb]
  exact p.at1 O.lo (.float _ _ (Nat.lt_of_lt_of_le h0 O.lo))
theorem Op2.subFI {a : Int} {i : Nat} (ha : a.natAbs < 2 ^ 30) (hi : i < 2 ^ 20) (h0 : 0 < W.lo := by assumption) : Op2 W n (binaryOp .Sub) (Fl a) (N i) (Fl (a - ((512 * i : Nat) : Int))) := fun A X s ca cb Q E O ra rb p => by
  obtain ⟨t, rfl, _⟩ := Rep.floatI ra
  obtain ⟨u, rfl⟩ := Rep.intI rb
  refine AutoFloatOps.sub_fi_1 ?_ ?_
  · rw [ofInt_EF hi, isInf_EF (by omega)]; exact Bool.false_ne_true
  · rw [ofInt_EF hi, sub_EF ha (by omega)]
    exact p.at1 O.lo (.float _ _ (Nat.lt_of_lt_of_le h0 O.lo))
theorem Op2.divF {a c : Int} {b : Nat} (hb0 : 0 < b) (h : a * 512 = c * b) (hb : b < 2 ^ 30) (ha : a.natAbs < 2 ^ 30) (hc : c.natAbs < 2 ^ 30) (h0 : 0 < W.lo := by assumption) : Op2 W n (binaryOp .Div) (Fl a) (Fl b) (Fl c) := fun A X s ca cb Q E O ra rb p => by
  obtain ⟨t, rfl, _⟩ := Rep.floatI ra
  obtain ⟨u, rfl, _⟩ := Rep.floatI rb
  refine AutoFloatOps.truediv_1 ?_ ?_
  · rw [isZero_EF (by omega) (by omega)]; exact Bool.false_ne_true
  · rw [div_EF hb0 (by omega) (by omega) (by omega) h]
    exact p.at1 O.lo (.float _ _ (Nat.lt_of_lt_of_le h0 O.lo))
theorem Op2.modF1 {a : Int} (ha : a.natAbs < 2 ^ 30) (h0 : 0 < W.lo := by assumption) : Op2 W n (binaryOp .Mod) (Fl a) (Fl 512) (Fl (a % 512)) := fun A X s ca cb Q E O ra rb p => by
  obtain ⟨t, rfl, _⟩ := Rep.floatI ra
  obtain ⟨u, rfl, _⟩ := Rep.floatI rb
  refine AutoFloatOps.mod_1 ?_ ?_
  · rw [isZero_EF (by decide) (by decide)]; exact Bool.false_ne_true
  · rw [mod_1 ha]
    exact p.at1 O.lo (.float _ _ (Nat.lt_of_lt_of_le h0 O.lo))
theorem cmp_eq {a b : Int} (ha : a.natAbs < 2 ^ 40) (hb : b.natAbs < 2 ^ 40) : (Float64.cmp (EF a) (EF b) == some Ordering.eq) = decide (a = b) := by
  rw [cmp_EF ha hb]
  by_cases h : a = b
  · subst h
    rw [decide_eq_true rfl, show compare a a = Ordering.eq by simp]; rfl
  · rw [decide_eq_false h]
    have : compare a b ≠ Ordering.eq := fun e => h (by simpa using e)
    cases hc : compare a b with
    | eq => exact absurd hc this
    | lt => rfl
    | gt => rfl
theorem cmp_lt {a b : Int} (ha : a.natAbs < 2 ^ 40) (hb : b.natAbs < 2 ^ 40) : (Float64.cmp (EF a) (EF b) == some Ordering.lt) = decide (a < b) := by
  rw [cmp_EF ha hb]
  by_cases h : a < b
  · rw [decide_eq_true h, show compare a b = .lt from compareOfLessAndEq_eq_lt.mpr h]; rfl
  · rw [decide_eq_false h]
    have : compare a b ≠ Ordering.lt := fun e => h (compareOfLessAndEq_eq_lt.mp e)
    cases hc : compare a b with
    | lt => exact absurd hc this
    | eq => rfl
    | gt => rfl
theorem Op2.eqF {a b : Int} (ha : a.natAbs < 2 ^ 30) (hb : b.natAbs < 2 ^ 30) : Op2 W n (compareOp .Eq) (Fl a) (Fl b) (.bool (decide (a = b))) := fun A X s ca cb Q E O ra rb p => by
  obtain ⟨t, rfl, _⟩ := Rep.floatI ra
  obtain ⟨u, rfl, _⟩ := Rep.floatI rb
  refine AutoFloatOps.eq_0 ?_
  rw [cmp_eq (by omega) (by omega)]
  exact p.here O.lo (.bool _)
theorem Op2.divI {a b c : Nat} (hb0 : 0 < b) (h : a * 512 = c * b) (ha : a < 2 ^ 30) (hb : b < 2 ^ 30) (hc : c < 2 ^ 30) (h0 : 0 < W.lo := by assumption) : Op2 W n (binaryOp .Div) (N a) (N b) (Fl c) := fun A X s ca cb Q E O ra rb p => by
  obtain ⟨t, rfl⟩ := Rep.intI ra
  obtain ⟨u, rfl⟩ := Rep.intI rb
  have e : Float64.ofFrac (decide ((a : Int) < 0) != decide ((b : Int) < 0)) (a : Int).natAbs (b : Int).natAbs = EF (c : Int) := by
    refine frac_EF (by omega) (by simpa using h) (by omega) ?_
    rw [decide_eq_false (by omega), decide_eq_false (by omega), decide_eq_false (by omega)]; rfl
  refine AutoIntOps.truediv_2 (by simp; omega) ?_ ?_
  · rw [e, isInf_EF (by omega)]; exact Bool.false_ne_true
  · rw [e]; exact p.at1 O.lo (.float _ _ (Nat.lt_of_lt_of_le h0 O.lo))
theorem Op.intF {a : Nat} (ha : a < 2 ^ 30) : Op W n (fun cvs => call (.type "int") cvs) [Fl a] (N (a / 512)) := fun A X s cvs Q E O r p => by
  obtain ⟨_, _, rfl, ra, r⟩ := RepAll.consI r
  obtain rfl := RepAll.nilI r
  obtain ⟨t, rfl, _⟩ := Rep.floatI ra
  obtain ⟨m, k, d, e⟩ := trunc_EF (n := a) (by omega)
  refine PySem.call_int_float d ?_
  rw [e]
  exact p.at1 O.lo (.int _ _)
end
section
variable {prog : Program} {w : World} {A : Around} {E : Value → Shared → Prop} {s : Shared} {Q : Value → Shared → Prop}
theorem args3 (a b c : Value) : (#[a, b, c] : Array Value).size - 1 = 2 := rfl
theorem max_three_num {a b c : Value} (hh : A.handled = none) (ha : PySem.Flt.NumV a) (hb : PySem.Flt.NumV b) (hc : PySem.Flt.NumV c)
    (h : ∀ h' tk, (∀ c o, s.heap.get? c = some o → h'.get? c = some o) → Q (if PySem.Flt.ltV a b then (if PySem.Flt.ltV b c then c else b) else (if PySem.Flt.ltV a c then c else a)) { s with heap := h', toks := tk }) :
    wpAny (model prog w) A (call (.builtin "max") [a, b, c]) Q E s := by
  have hT : (s.heap.push { cls := .type "tuple", data := .seq #[a, b, c] }).IsTuple s.heap.objs.size #[a, b, c] := ⟨_, Heap.get?_push_size _ rfl, rfl, 0, rfl⟩
  refine call_max_three (wpAny_pyIter_tuple hT ?_)
  have hsz : (s.heap.push { cls := .type "tuple", data := .seq #[a, b, c] }).objs.size = s.heap.objs.size + 1 := Heap.size_push ..
  refine ⟨_, [_, s.heap.objs.size], [_], _, _, _, _, rfl, Walks.tuple (A := A.in1) hh _ s.heap.objs.size (by rw [hsz]; exact Nat.ne_of_lt (Nat.lt_succ_self _)) #[a, b, c],
    ⟨⟨_, Heap.get?_push_size _ rfl, rfl, rfl⟩, hT.push _⟩, fun d hd => ?_, by simp, PySem.Flt.cmpOf_gt #[a, b, c] (by simp [ha, hb, hc]), fun v h' tk hP hk => ?_⟩
  · show d < ((s.heap.push _).push _).objs.size
    rw [Heap.size_push, hsz]
    rcases List.mem_cons.mp hd with rfl | hd
    · rw [hsz]; exact Nat.lt_succ_self _
    · rw [List.mem_singleton.mp hd]
      exact Nat.lt_succ_of_lt (Nat.lt_succ_self _)
  · have hold : ∀ d o, s.heap.get? d = some o → h'.get? d = some o := fun d o e => by
      refine hk d o (fun hm => ?_) (Heap.get?_push_of_some _ (Heap.get?_push_of_some _ e))
      have := Heap.lt_size e
      rw [List.mem_singleton.mp hm, hsz] at this
      exact Nat.lt_irrefl _ (Nat.lt_of_succ_lt this)
    have hv : v = if PySem.Flt.ltV a b then (if PySem.Flt.ltV b c then c else b) else (if PySem.Flt.ltV a c then c else a) := by
      cases h1 : PySem.Flt.ltV a b <;> cases h2 : PySem.Flt.ltV b c <;> cases h3 : PySem.Flt.ltV a c <;> simp [argBest, h1, h2, h3] at hP <;> simp [hP]
    rw [hv]; exact h h' tk hold
theorem min_three_num {a b c : Value} (hh : A.handled = none) (ha : PySem.Flt.NumV a) (hb : PySem.Flt.NumV b) (hc : PySem.Flt.NumV c)
    (h : ∀ h' tk, (∀ c o, s.heap.get? c = some o → h'.get? c = some o) → Q (if PySem.Flt.ltV b a then (if PySem.Flt.ltV c b then c else b) else (if PySem.Flt.ltV c a then c else a)) { s with heap := h', toks := tk }) :
    wpAny (model prog w) A (call (.builtin "min") [a, b, c]) Q E s := by
  have hT : (s.heap.push { cls := .type "tuple", data := .seq #[a, b, c] }).IsTuple s.heap.objs.size #[a, b, c] := ⟨_, Heap.get?_push_size _ rfl, rfl, 0, rfl⟩
  refine call_min_three (wpAny_pyIter_tuple hT ?_)
  have hsz : (s.heap.push { cls := .type "tuple", data := .seq #[a, b, c] }).objs.size = s.heap.objs.size + 1 := Heap.size_push ..
  refine ⟨_, [_, s.heap.objs.size], [_], _, _, _, _, rfl, Walks.tuple (A := A.in1) hh _ s.heap.objs.size (by rw [hsz]; exact Nat.ne_of_lt (Nat.lt_succ_self _)) #[a, b, c],
    ⟨⟨_, Heap.get?_push_size _ rfl, rfl, rfl⟩, hT.push _⟩, fun d hd => ?_, by simp, PySem.Flt.cmpOf_lt #[a, b, c] (by simp [ha, hb, hc]), fun v h' tk hP hk => ?_⟩
  · show d < ((s.heap.push _).push _).objs.size
    rw [Heap.size_push, hsz]
    rcases List.mem_cons.mp hd with rfl | hd
    · rw [hsz]; exact Nat.lt_succ_self _
    · rw [List.mem_singleton.mp hd]
      exact Nat.lt_succ_of_lt (Nat.lt_succ_self _)
  · have hold : ∀ d o, s.heap.get? d = some o → h'.get? d = some o := fun d o e => by
      refine hk d o (fun hm => ?_) (Heap.get?_push_of_some _ (Heap.get?_push_of_some _ e))
      have := Heap.lt_size e
      rw [List.mem_singleton.mp hm, hsz] at this
      exact Nat.lt_irrefl _ (Nat.lt_of_succ_lt this)
    have hv : v = if PySem.Flt.ltV b a then (if PySem.Flt.ltV c b then c else b) else (if PySem.Flt.ltV c a then c else a) := by
      cases h1 : PySem.Flt.ltV b a <;> cases h2 : PySem.Flt.ltV c b <;> cases h3 : PySem.Flt.ltV c a <;> simp [argBest, h1, h2, h3] at hP <;> simp [hP]
    rw [hv]; exact h h' tk hold
end
section
variable {W : Wd} {n : Nat}
theorem lt_nat {a b : Nat} (ha : a < 2 ^ 30) (hb : b < 2 ^ 30) (t u : Tok) : PySem.Flt.ltV (.float (EF a) t) (.float (EF b) u) = decide (a < b) :=
  (cmp_lt (Nat.lt_trans ha (by decide)) (Nat.lt_trans hb (by decide))).trans (decide_eq_decide.mpr Int.ofNat_lt)
theorem Op.max3F {a b c : Nat} (ha : a < 2 ^ 30) (hb : b < 2 ^ 30) (hc : c < 2 ^ 30) : Op W n (fun cvs => call (.builtin "max") cvs) [Fl a, Fl b, Fl c] (Fl (max a (max b c) : Nat)) := fun A X s cvs Q E O r p => by
  obtain ⟨_, _, rfl, ra, r⟩ := RepAll.consI r
  obtain ⟨_, _, rfl, rb, r⟩ := RepAll.consI r
  obtain ⟨_, _, rfl, rc, r⟩ := RepAll.consI r
  obtain rfl := RepAll.nilI r
  obtain ⟨t, rfl, pt⟩ := Rep.floatI ra
  obtain ⟨u, rfl, pu⟩ := Rep.floatI rb
  obtain ⟨v, rfl, pv⟩ := Rep.floatI rc
  have l1 := lt_nat ha hb t u
  have l2 := lt_nat hb hc u v
  have l3 := lt_nat ha hc t v
  refine wpAny_toks (max_three_num O.room.handled (.float _ _) (.float _ _) (.float _ _) fun h' tk k hle => ?_)
  rw [l1, l2, l3]
  have fin : ∀ (m : Nat) (x : Tok), 0 < x → max a (max b c) = m → Q (.float (EF m) x) { s with heap := h', toks := tk } := fun m x px e => by
    rw [e] at p
    exact p _ h' tk ⟨k, Nat.le_trans O.lo hle⟩ (.float _ _ px)
  by_cases h1 : a < b
  · rw [if_pos (decide_eq_true h1)]
    by_cases h2 : b < c
    · rw [if_pos (decide_eq_true h2)]; exact fin _ _ (by assumption) (by rw [Nat.max_eq_right (Nat.le_of_lt h2), Nat.max_eq_right (Nat.le_of_lt (Nat.lt_trans h1 h2))])
    · rw [if_neg (fun q => h2 (of_decide_eq_true q))]; exact fin _ _ (by assumption) (by rw [Nat.max_eq_left (Nat.not_lt.mp h2), Nat.max_eq_right (Nat.le_of_lt h1)])
  · rw [if_neg (fun q => h1 (of_decide_eq_true q))]
    by_cases h3 : a < c
    · rw [if_pos (decide_eq_true h3)]; exact fin _ _ (by assumption) (by rw [Nat.max_eq_right (Nat.le_trans (Nat.not_lt.mp h1) (Nat.le_of_lt h3)), Nat.max_eq_right (Nat.le_of_lt h3)])
    · rw [if_neg (fun q => h3 (of_decide_eq_true q))]; exact fin _ _ (by assumption) (Nat.max_eq_left (Nat.max_le.mpr ⟨Nat.not_lt.mp h1, Nat.not_lt.mp h3⟩))
theorem Op.min3F {a b c : Nat} (ha : a < 2 ^ 30) (hb : b < 2 ^ 30) (hc : c < 2 ^ 30) : Op W n (fun cvs => call (.builtin "min") cvs) [Fl a, Fl b, Fl c] (Fl (min a (min b c) : Nat)) := fun A X s cvs Q E O r p => by
  obtain ⟨_, _, rfl, ra, r⟩ := RepAll.consI r
  obtain ⟨_, _, rfl, rb, r⟩ := RepAll.consI r
  obtain ⟨_, _, rfl, rc, r⟩ := RepAll.consI r
  obtain rfl := RepAll.nilI r
  obtain ⟨t, rfl, pt⟩ := Rep.floatI ra
  obtain ⟨u, rfl, pu⟩ := Rep.floatI rb
  obtain ⟨v, rfl, pv⟩ := Rep.floatI rc
  have l1 := lt_nat hb ha u t
  have l2 := lt_nat hc hb v u
  have l3 := lt_nat hc ha v t
  refine wpAny_toks (min_three_num O.room.handled (.float _ _) (.float _ _) (.float _ _) fun h' tk k hle => ?_)
  rw [l1, l2, l3]
  have fin : ∀ (m : Nat) (x : Tok), 0 < x → min a (min b c) = m → Q (.float (EF m) x) { s with heap := h', toks := tk } := fun m x px e => by
    rw [e] at p
    exact p _ h' tk ⟨k, Nat.le_trans O.lo hle⟩ (.float _ _ px)
  by_cases h1 : b < a
  · rw [if_pos (decide_eq_true h1)]
    by_cases h2 : c < b
    · rw [if_pos (decide_eq_true h2)]; exact fin _ _ (by assumption) (by rw [Nat.min_eq_right (Nat.le_of_lt h2), Nat.min_eq_right (Nat.le_of_lt (Nat.lt_trans h2 h1))])
    · rw [if_neg (fun q => h2 (of_decide_eq_true q))]; exact fin _ _ (by assumption) (by rw [Nat.min_eq_left (Nat.not_lt.mp h2), Nat.min_eq_right (Nat.le_of_lt h1)])
  · rw [if_neg (fun q => h1 (of_decide_eq_true q))]
    by_cases h3 : c < a
    · rw [if_pos (decide_eq_true h3)]; exact fin _ _ (by assumption) (by rw [Nat.min_eq_right (Nat.le_trans (Nat.le_of_lt h3) (Nat.not_lt.mp h1)), Nat.min_eq_right (Nat.le_of_lt h3)])
    · rw [if_neg (fun q => h3 (of_decide_eq_true q))]; exact fin _ _ (by assumption) (Nat.min_eq_left (Nat.le_min.mpr ⟨Nat.not_lt.mp h1, Nat.not_lt.mp h3⟩))
end
theorem k6 : (0x4018000000000000 : UInt64) = EF ((3072 : Nat) : Int) := by decide +kernel
theorem k1 : (0x3ff0000000000000 : UInt64) = EF (512 : Int) := by decide +kernel
theorem k2 : (0x4000000000000000 : UInt64) = EF (1024 : Int) := by decide +kernel
theorem k4 : (0x4010000000000000 : UInt64) = EF (2048 : Int) := by decide +kernel
theorem k0 : (0x0000000000000000 : UInt64) = EF (0 : Int) := by decide +kernel
end
section
open PySem PySem.Calls PyProof.Rows
open FE
end
section
open PySem PySem.Calls PyProof.Rows
noncomputable def hsvP (s L : Nat) : Nat := 8 * L * (8 - s)
noncomputable def hsvQ (k s L : Nat) : Nat := L * (64 - s * k)
noncomputable def hsvT (k s L : Nat) : Nat := L * (64 - s * (8 - k))
noncomputable def hsvJ (j k s L : Nat) : Nat × Nat × Nat :=
  if j = 0 then (64 * L, hsvT k s L, hsvP s L) else if j = 1 then (hsvQ k s L, 64 * L, hsvP s L) else if j = 2 then (hsvP s L, 64 * L, hsvT k s L)
  else if j = 3 then (hsvP s L, hsvQ k s L, 64 * L) else if j = 4 then (hsvT k s L, hsvP s L, 64 * L) else (64 * L, hsvP s L, hsvQ k s L)
noncomputable def hsvN (x s L : Nat) : Nat × Nat × Nat := if s = 0 then (64 * L, 64 * L, 64 * L) else hsvJ (3 * x / 8 % 6) (3 * x % 8) s L
noncomputable abbrev F3 (p : Nat × Nat × Nat) : PV := .tuple [Fl (p.1 : Nat), Fl (p.2.1 : Nat), Fl (p.2.2 : Nat)]
theorem ar1 : ∀ L : Fin 9, ∀ s : Fin 9, 64 * L.val * (64 * (8 - s.val)) = 512 * hsvP s.val L.val ∧ hsvP s.val L.val ≤ 512 := by decide +kernel
theorem ar2 : ∀ s : Fin 9, ∀ k : Fin 9, 64 * s.val * (64 * k.val) = 512 * (8 * s.val * k.val) ∧ 8 * s.val * k.val ≤ 512 := by decide +kernel
theorem ar3 : ∀ L : Fin 9, ∀ s : Fin 9, ∀ k : Fin 9, 64 * L.val * (512 - 8 * s.val * k.val) = 512 * (L.val * (64 - s.val * k.val)) ∧ L.val * (64 - s.val * k.val) ≤ 512 := by decide +kernel
section
variable {W : Wd} {A : Around} {X : AS} {env : Env} {h : Heap}
theorem Ev.f6 {k : Nat} {pos : Pos} (h0 : 0 < W.lo := by assumption) : Ev W A X env h (.Constant (.float 0x4018000000000000) k pos) (Fl (3072 : Nat)) := (Ev.float h0).cast (congrArg PV.float k6)
theorem Ev.f1 {k : Nat} {pos : Pos} (h0 : 0 < W.lo := by assumption) : Ev W A X env h (.Constant (.float 0x3ff0000000000000) k pos) (Fl 512) := (Ev.float h0).cast (congrArg PV.float k1)
theorem Ev.f2 {k : Nat} {pos : Pos} (h0 : 0 < W.lo := by assumption) : Ev W A X env h (.Constant (.float 0x4000000000000000) k pos) (Fl 1024) := (Ev.float h0).cast (congrArg PV.float k2)
theorem Ev.f4 {k : Nat} {pos : Pos} (h0 : 0 < W.lo := by assumption) : Ev W A X env h (.Constant (.float 0x4010000000000000) k pos) (Fl 2048) := (Ev.float h0).cast (congrArg PV.float k4)
theorem Ev.f0 {k : Nat} {pos : Pos} (h0 : 0 < W.lo := by assumption) : Ev W A X env h (.Constant (.float 0x0000000000000000) k pos) (Fl 0) := (Ev.float h0).cast (congrArg PV.float k0)
end
theorem lt30 {a : Nat} (h : a < 2 ^ 20) : a < 2 ^ 30 := Nat.lt_trans h (by decide)
theorem nbf {a : Nat} (h : a < 2 ^ 20) : (a : Int).natAbs < 2 ^ 30 := lt30 h
theorem lt512 {a : Nat} (h : a ≤ 512) : a < 2 ^ 30 := Nat.lt_of_le_of_lt h (by decide)
theorem nbf5 {a : Nat} (h : a ≤ 512) : (a : Int).natAbs < 2 ^ 30 := lt512 h
theorem csub {a b : Nat} (h : b ≤ a) : (a : Int) - b = ((a - b : Nat) : Int) := (Int.ofNat_sub h).symm
theorem s64 {s : Nat} (h : decide (((64 * s : Nat) : Int) = 0) = true) : s = 0 := by
  have := of_decide_eq_true h
  omega
theorem i192 (x : Nat) : 192 * x / 512 = 3 * x / 8 := by omega
theorem f192 (x : Nat) : ((192 * x : Nat) : Int) - ((512 * (192 * x / 512) : Nat) : Int) = ((64 * (3 * x % 8) : Nat) : Int) := by omega
theorem m192 (x : Nat) : 32 * x * 3072 = 512 * (192 * x) := by omega
theorem e64 {s : Nat} (h : s ≤ 8) : (512 : Int) - ((64 * s : Nat) : Int) = ((64 * (8 - s) : Nat) : Int) := by omega
theorem h88 (s : Nat) : 64 * (8 - s) < 2 ^ 30 := Nat.lt_of_le_of_lt (Nat.mul_le_mul_left 64 (Nat.sub_le 8 s)) (by decide)
theorem s512 (a : Nat) : 512 - a < 2 ^ 30 := Nat.lt_of_le_of_lt (Nat.sub_le ..) (by decide)
theorem l64 {s : Nat} (h : s ≤ 8) : 64 * s < 2 ^ 20 := Nat.lt_of_le_of_lt (Nat.mul_le_mul_left 64 h) (by decide)
theorem fivej : ∀ {j : Nat}, j < 6 → (j == 0) = false → (j == 1) = false → (j == 2) = false → (j == 3) = false → (j == 4) = false → j = 5
  | 0, _, h, _, _, _, _ => nomatch h
  | 1, _, _, h, _, _, _ => nomatch h
  | 2, _, _, _, h, _, _ => nomatch h
  | 3, _, _, _, _, h, _ => nomatch h
  | 4, _, _, _, _, _, h => nomatch h
  | 5, _, _, _, _, _, _ => rfl
  | j + 6, h, _, _, _, _, _ => absurd h (Nat.not_lt.mpr (Nat.le_add_left ..))
theorem fl_cast {a b : Int} (h : a = b) : Fl a = Fl b := by rw [h]
section
variable {W : Wd} {n : Nat}
set_option maxRecDepth 100000
set_option maxHeartbeats 8000000 in
theorem f_hsv (h0 : 0 < W.lo) (hW : W.ds = fns) {x s L : Nat} (hx : x < 10000) (hs : s ≤ 8) (hL : L ≤ 8) : Fun W (n + 1) (fn 13) [Fl (32 * x : Nat), Fl (64 * s : Nat), Fl (64 * L : Nat)] (F3 (hsvN x s L)) :=
  Fun.of ["h", "s", "v"] sc13 (fun A Xc env Y h₀ => by
    show Ex _ _ [("h", Fl (32 * x : Nat)), ("s", Fl (64 * s : Nat)), ("v", Fl (64 * L : Nat))] [] _
    have hk : 3 * x % 8 < 8 := Nat.mod_lt _ (by decide)
    obtain ⟨p1, p2⟩ := ar1 ⟨L, Nat.lt_succ_of_le hL⟩ ⟨s, Nat.lt_succ_of_le hs⟩
    obtain ⟨q1, q2⟩ := ar2 ⟨s, Nat.lt_succ_of_le hs⟩ ⟨3 * x % 8, Nat.lt_succ_of_lt hk⟩
    obtain ⟨q3, q4⟩ := ar3 ⟨L, Nat.lt_succ_of_le hL⟩ ⟨s, Nat.lt_succ_of_le hs⟩ ⟨3 * x % 8, Nat.lt_succ_of_lt hk⟩
    obtain ⟨t1, t2⟩ := ar2 ⟨s, Nat.lt_succ_of_le hs⟩ ⟨8 - 3 * x % 8, Nat.lt_succ_of_le (Nat.sub_le ..)⟩
    obtain ⟨t3, t4⟩ := ar3 ⟨L, Nat.lt_succ_of_le hL⟩ ⟨s, Nat.lt_succ_of_le hs⟩ ⟨8 - 3 * x % 8, Nat.lt_succ_of_le (Nat.sub_le ..)⟩
    dsimp only at p1 p2 q1 q2 q3 q4 t1 t2 t3 t4
    have hs64 := l64 hs
    have hL64 := l64 hL
    have hx192 : 192 * x < 2 ^ 30 := Nat.lt_trans (Nat.mul_lt_mul_of_pos_left hx (by decide)) (by decide)
    have hx32 : 32 * x < 2 ^ 30 := Nat.lt_trans (Nat.mul_lt_mul_of_pos_left hx (by decide)) (by decide)
    have hi20 : 192 * x / 512 < 2 ^ 20 := Nat.div_lt_of_lt_mul (Nat.lt_trans (Nat.mul_lt_mul_of_pos_left hx (by decide)) (by decide))
    by_cases h0 : s = 0
    · subst h0
      show Ex _ _ _ _ (.ret (.tuple [Fl (64 * L : Nat), Fl (64 * L : Nat), Fl (64 * L : Nat)]))
      refine Ex.ite (c := decide ((((64 * 0 : Nat)) : Int) = 0)) (fun X h C => EvB.cmp C (by walk_at "m.ev") Ev.f0 (Op2.eqF (by decide) (by decide))) (fun _ => ⟨_, Ex.ret (by walk_at "m.e1"), Then.ret⟩) (fun hc => by simp at hc)
    · have hN : hsvN x s L = hsvJ (3 * x / 8 % 6) (3 * x % 8) s L := by unfold hsvN; rw [if_neg h0]
      rw [hN]
      refine Ex.ite (c := decide (((64 * s : Nat) : Int) = 0)) (fun X h C => EvB.cmp C (by walk_at "m.ev") Ev.f0 (Op2.eqF (nbf hs64) (by decide))) (fun hc => absurd (s64 hc) h0) (fun _ => ⟨_, Ex.nil, Then.next ?_⟩)
      have hJ : 3 * x / 8 % 6 < 6 := Nat.mod_lt _ (by decide)
      have hi := i192 x
      have hf := f192 x
      refine Ex.assign (v := N (192 * x / 512)) (fun X h C => Ev.callT C (EvArgs.cons (Ev.bin C (by walk_at "m.ev") Ev.f6 (Op2.mulF (c := 192 * x) (m192 x) hx32 (by decide) hx192)) EvArgs.nil) (Op.intF hx192)) (by walk_at "m.erase") (by walk_at "m.off") ?_
      refine Ex.assign (v := Fl (64 * (3 * x % 8) : Nat)) (fun X h C => (Ev.bin C (Ev.bin C (by walk_at "m.ev") Ev.f6 (Op2.mulF (c := 192 * x) (m192 x) hx32 (by decide) hx192)) (by walk_at "m.ev") (Op2.subFI hx192 hi20)).cast (fl_cast hf)) (by walk_at "m.erase") (by walk_at "m.off") ?_
      rw [hi]
      have es := e64 hs
      generalize hkk : 3 * x % 8 = k at *
      generalize 3 * x / 8 = i at *
      have ek := e64 (Nat.le_of_lt hk)
      have hk64 := l64 (Nat.le_of_lt hk)
      have eq : (512 : Int) - ((8 * s * k : Nat) : Int) = ((512 - 8 * s * k : Nat) : Int) := csub q2
      have et : (512 : Int) - ((8 * s * (8 - k) : Nat) : Int) = ((512 - 8 * s * (8 - k) : Nat) : Int) := csub t2
      refine Ex.assign (v := Fl (hsvP s L : Nat)) (fun X h C => Ev.bin C (by walk_at "m.ev") ((Ev.bin C Ev.f1 (by walk_at "m.ev") (Op2.subF (by decide) (nbf hs64))).cast (fl_cast es)) (Op2.mulF p1 (lt30 hL64) (h88 s) (lt512 p2))) (by walk_at "m.erase") (by walk_at "m.off") ?_
      refine Ex.assign (v := Fl (hsvQ k s L : Nat)) (fun X h C => Ev.bin C (by walk_at "m.ev") ((Ev.bin C Ev.f1 (Ev.bin C (by walk_at "m.ev") (by walk_at "m.ev") (Op2.mulF q1 (lt30 hs64) (lt30 hk64) (lt512 q2))) (Op2.subF (by decide) (nbf5 q2))).cast (fl_cast eq)) (Op2.mulF q3 (lt30 hL64) (s512 _) (lt512 q4))) (by walk_at "m.erase") (by walk_at "m.off") ?_
      refine Ex.assign (v := Fl (hsvT k s L : Nat)) (fun X h C => Ev.bin C (by walk_at "m.ev") ((Ev.bin C Ev.f1 (Ev.bin C (by walk_at "m.ev") ((Ev.bin C Ev.f1 (by walk_at "m.ev") (Op2.subF (by decide) (nbf hk64))).cast (fl_cast ek)) (Op2.mulF t1 (lt30 hs64) (h88 k) (lt512 t2))) (Op2.subF (by decide) (nbf5 t2))).cast (fl_cast et)) (Op2.mulF t3 (lt30 hL64) (s512 _) (lt512 t4))) (by walk_at "m.erase") (by walk_at "m.off") ?_
      refine Ex.assign (v := N (i % 6)) (fun X h C => Ev.bin C (by walk_at "m.ev") Ev.nat (Op2.mod_nat (by decide))) (by walk_at "m.erase") (by walk_at "m.off") ?_
      generalize hj : i % 6 = j at hJ ⊢
      clear hj
      refine Ex.ite (c := j == 0) (fun X h C => EvB.cmp C (by walk_at "m.ev") Ev.nat Op2.eq_nat) (fun hc => ⟨.ret (F3 (hsvJ j k s L)), ?_, Then.ret⟩) (fun h0 => ⟨_, Ex.nil, Then.next ?_⟩)
      · obtain rfl := eq_of_beq hc
        exact Ex.ret (v := F3 (64 * L, hsvT k s L, hsvP s L)) (by walk_at "m.e1")
      refine Ex.ite (c := j == 1) (fun X h C => EvB.cmp C (by walk_at "m.ev") Ev.nat Op2.eq_nat) (fun hc => ⟨.ret (F3 (hsvJ j k s L)), ?_, Then.ret⟩) (fun h1 => ⟨_, Ex.nil, Then.next ?_⟩)
      · obtain rfl := eq_of_beq hc
        exact Ex.ret (v := F3 (hsvQ k s L, 64 * L, hsvP s L)) (by walk_at "m.e1")
      refine Ex.ite (c := j == 2) (fun X h C => EvB.cmp C (by walk_at "m.ev") Ev.nat Op2.eq_nat) (fun hc => ⟨.ret (F3 (hsvJ j k s L)), ?_, Then.ret⟩) (fun h2 => ⟨_, Ex.nil, Then.next ?_⟩)
      · obtain rfl := eq_of_beq hc
        exact Ex.ret (v := F3 (hsvP s L, 64 * L, hsvT k s L)) (by walk_at "m.e1")
      refine Ex.ite (c := j == 3) (fun X h C => EvB.cmp C (by walk_at "m.ev") Ev.nat Op2.eq_nat) (fun hc => ⟨.ret (F3 (hsvJ j k s L)), ?_, Then.ret⟩) (fun h3 => ⟨_, Ex.nil, Then.next ?_⟩)
      · obtain rfl := eq_of_beq hc
        exact Ex.ret (v := F3 (hsvP s L, hsvQ k s L, 64 * L)) (by walk_at "m.e1")
      refine Ex.ite (c := j == 4) (fun X h C => EvB.cmp C (by walk_at "m.ev") Ev.nat Op2.eq_nat) (fun hc => ⟨.ret (F3 (hsvJ j k s L)), ?_, Then.ret⟩) (fun h4 => ⟨_, Ex.nil, Then.next ?_⟩)
      · obtain rfl := eq_of_beq hc
        exact Ex.ret (v := F3 (hsvT k s L, hsvP s L, 64 * L)) (by walk_at "m.e1")
      obtain rfl := fivej hJ h0 h1 h2 h3 h4
      exact Ex.ite (c := (5 : Nat) == 5) (fun X h C => EvB.cmp C (by walk_at "m.ev") Ev.nat Op2.eq_nat) (fun _ => ⟨_, Ex.ret (v := F3 (64 * L, hsvP s L, hsvQ k s L)) (by walk_at "m.e1"), Then.ret⟩) (fun hc => absurd hc (by decide))) (by intro pm code doc cvs h; obtain ⟨a, b, c, rfl⟩ := len3 h; rfl) (by decide +kernel) rfl
end
end
section
open PySem PySem.Calls PyProof.Rows
open FE
end
section
open PySem PySem.Calls PyProof.Rows
structure RgbOk (r g b H S : Nat) : Prop where
  go : ∃ (rc gc bc : Nat) (h6 : Int), (max r (max g b) - min r (min g b)) * 512 = S * max r (max g b) ∧ (max r (max g b) - r) * 512 = rc * (max r (max g b) - min r (min g b)) ∧ (max r (max g b) - g) * 512 = gc * (max r (max g b) - min r (min g b)) ∧
    (max r (max g b) - b) * 512 = bc * (max r (max g b) - min r (min g b)) ∧ (if r = max r (max g b) then (bc : Int) - gc else if g = max r (max g b) then 1024 + rc - bc else 2048 + gc - rc) = 6 * h6 ∧ h6 % 512 = H
theorem le_512 {d n c : Nat} (hd : 0 < d) (h : n * 512 = c * d) (hn : n ≤ d) : c ≤ 512 := by
  by_cases hc : c ≤ 512
  · exact hc
  · have h1 : 513 * d ≤ c * d := Nat.mul_le_mul_right _ (by omega)
    omega
noncomputable def Hid (p : Prop) : Prop := p
theorem nb_add {a k : Nat} (h : a ≤ 512) (hk : k ≤ 2048) : ((k : Int) + a).natAbs < 2 ^ 30 := by omega
theorem nb_mul {a : Int} (h : a.natAbs < 10000) : (6 * a).natAbs < 2 ^ 30 := by omega
theorem six_mul (h6 : Int) : 6 * h6 * 512 = h6 * ((3072 : Nat) : Int) := by omega
theorem cst {a b c : Nat} (h : a * 512 = c * b) : (a : Int) * 512 = (c : Int) * b := (Int.natCast_mul a 512).symm.trans ((congrArg Nat.cast h).trans (Int.natCast_mul c b))
theorem dec_t {a b : Nat} (h : decide ((a : Int) = b) = true) : a = b := Int.ofNat.inj (of_decide_eq_true h)
theorem dec_f {a b : Nat} (h : decide ((a : Int) = b) = false) : ¬ a = b := fun e => of_decide_eq_false h (congrArg _ e)
theorem h6_lim {rc gc bc : Nat} {h6 : Int} {p q : Prop} [Decidable p] [Decidable q] (b2 : rc ≤ 512) (b3 : gc ≤ 512) (b4 : bc ≤ 512) (hh : (if p then (bc : Int) - gc else if q then 1024 + rc - bc else 2048 + gc - rc) = 6 * h6) : h6.natAbs < 10000 := by
  revert hh
  split
  · intro hh; omega
  · split <;> intro hh <;> omega
section
variable {W : Wd} {n : Nat}
set_option maxRecDepth 100000
set_option maxHeartbeats 8000000 in
theorem f_rgb_same (h0 : 0 < W.lo) (hW : W.ds = fns) {r g b : Nat} (hr : r < 2 ^ 20) (hg : g < 2 ^ 20) (hb : b < 2 ^ 20) (he : min r (min g b) = max r (max g b)) : Fun W (n + 1) (fn 12) [Fl r, Fl g, Fl b] (F3 (0, 0, max r (max g b))) :=
  Fun.of ["r", "g", "b"] sc12 (fun A Xc env Y h₀ => by
    show Ex _ _ [("r", Fl r), ("g", Fl g), ("b", Fl b)] [] _
    refine Ex.assign (v := Fl (max r (max g b) : Nat)) (fun X h C => Ev.callB C (by walk_at "m.args") (Op.max3F (lt30 hr) (lt30 hg) (lt30 hb))) (by walk_at "m.erase") (by walk_at "m.off") ?_
    refine Ex.assign (v := Fl (min r (min g b) : Nat)) (fun X h C => Ev.callB C (by walk_at "m.args") (Op.min3F (lt30 hr) (lt30 hg) (lt30 hb))) (by walk_at "m.erase") (by walk_at "m.off") ?_
    have hmx : max r (max g b) < 2 ^ 20 := Nat.max_lt.mpr ⟨hr, Nat.max_lt.mpr ⟨hg, hb⟩⟩
    rw [he]
    generalize max r (max g b) = mx at *
    clear he
    refine Ex.assign (v := Fl ((mx : Int) - mx)) (fun X h C => Ev.bin C (by walk_at "m.ev") (by walk_at "m.ev") (Op2.subF (nbf hmx) (nbf hmx))) (by walk_at "m.erase") (by walk_at "m.off") ?_
    refine Ex.assign (v := Fl mx) (fun X h C => by walk_at "m.ev") (by walk_at "m.erase") (by walk_at "m.off") ?_
    refine Ex.ite (c := decide ((mx : Int) = mx)) (fun X h C => EvB.cmp C (by walk_at "m.ev") (by walk_at "m.ev") (Op2.eqF (nbf hmx) (nbf hmx))) (fun _ => ⟨_, Ex.ret (v := .tuple [Fl 0, Fl 0, Fl mx]) (fun X h C => Ev.tuple C (EvArgs.cons Ev.f0 (EvArgs.cons Ev.f0 (EvArgs.cons (by walk_at "m.ev") EvArgs.nil))) (Nat.le_of_ble_eq_true rfl)), Then.ret⟩) (fun hc => absurd rfl (dec_f hc))) (by intro pm code doc cvs h; obtain ⟨a, b, c, rfl⟩ := len3 h; rfl) (by decide +kernel) rfl
set_option maxHeartbeats 8000000 in
theorem f_rgb (h0 : 0 < W.lo) (hW : W.ds = fns) {r g b H S : Nat} (hr : r < 2 ^ 20) (hg : g < 2 ^ 20) (hb : b < 2 ^ 20) (hlt : min r (min g b) < max r (max g b)) (R : RgbOk r g b H S) : Fun W (n + 1) (fn 12) [Fl r, Fl g, Fl b] (F3 (H, S, max r (max g b))) :=
  Fun.of ["r", "g", "b"] sc12 (fun A Xc env Y h₀ => by
    show Ex _ _ [("r", Fl r), ("g", Fl g), ("b", Fl b)] [] _
    obtain ⟨rc, gc, bc, h6, hS, hrc, hgc, hbc, hh, hH⟩ := R.go
    clear R
    refine Ex.assign (v := Fl (max r (max g b) : Nat)) (fun X h C => Ev.callB C (by walk_at "m.args") (Op.max3F (lt30 hr) (lt30 hg) (lt30 hb))) (by walk_at "m.erase") (by walk_at "m.off") ?_
    refine Ex.assign (v := Fl (min r (min g b) : Nat)) (fun X h C => Ev.callB C (by walk_at "m.args") (Op.min3F (lt30 hr) (lt30 hg) (lt30 hb))) (by walk_at "m.erase") (by walk_at "m.off") ?_
    have hmx : max r (max g b) < 2 ^ 20 := Nat.max_lt.mpr ⟨hr, Nat.max_lt.mpr ⟨hg, hb⟩⟩
    have hmr : min r (min g b) ≤ r := Nat.min_le_left ..
    have hmg : min r (min g b) ≤ g := Nat.le_trans (Nat.min_le_right ..) (Nat.min_le_left ..)
    have hmb : min r (min g b) ≤ b := Nat.le_trans (Nat.min_le_right ..) (Nat.min_le_right ..)
    have hxr : r ≤ max r (max g b) := Nat.le_max_left ..
    have hxg : g ≤ max r (max g b) := Nat.le_trans (Nat.le_max_left ..) (Nat.le_max_right ..)
    have hxb : b ≤ max r (max g b) := Nat.le_trans (Nat.le_max_right ..) (Nat.le_max_right ..)
    generalize max r (max g b) = mx at *
    generalize min r (min g b) = mn at *
    have hmn : mn < 2 ^ 20 := Nat.lt_trans hlt hmx
    have hx0 : 0 < mx := Nat.lt_of_le_of_lt (Nat.zero_le _) hlt
    have hd0 : 0 < mx - mn := Nat.sub_pos_of_lt hlt
    have b1 := le_512 hx0 hS (Nat.sub_le ..)
    have b2 := le_512 hd0 hrc (Nat.sub_le_sub_left hmr _)
    have b3 := le_512 hd0 hgc (Nat.sub_le_sub_left hmg _)
    have b4 := le_512 hd0 hbc (Nat.sub_le_sub_left hmb _)
    have sl : ∀ k, mx - k < 2 ^ 20 := fun k => Nat.lt_of_le_of_lt (Nat.sub_le ..) hmx
    have h6b := h6_lim b2 b3 b4 hh
    refine Ex.assign (v := Fl (mx - mn : Nat)) (fun X h C => (Ev.bin C (by walk_at "m.ev") (by walk_at "m.ev") (Op2.subF (nbf hmx) (nbf hmn))).cast (fl_cast (csub (Nat.le_of_lt hlt)))) (by walk_at "m.erase") (by walk_at "m.off") ?_
    refine Ex.assign (v := Fl mx) (fun X h C => by walk_at "m.ev") (by walk_at "m.erase") (by walk_at "m.off") ?_
    refine Ex.ite (c := decide ((mn : Int) = mx)) (fun X h C => EvB.cmp C (by walk_at "m.ev") (by walk_at "m.ev") (Op2.eqF (nbf hmn) (nbf hmx))) (fun hc => absurd (dec_t hc) (Nat.ne_of_lt hlt)) (fun _ => ⟨_, Ex.nil, Then.next ?_⟩)
    have hd1 := sl mn
    have sr := sl r
    have sg := sl g
    have sb := sl b
    generalize mx - mn = d at *
    refine Ex.assign (v := Fl S) (fun X h C => Ev.bin C (by walk_at "m.ev") (by walk_at "m.ev") (Op2.divF hx0 (cst hS) (lt30 hmx) (nbf hd1) (nbf5 b1))) (by walk_at "m.erase") (by walk_at "m.off") ?_
    refine Ex.assign (v := Fl rc) (fun X h C => Ev.bin C ((Ev.bin C (by walk_at "m.ev") (by walk_at "m.ev") (Op2.subF (nbf hmx) (nbf hr))).cast (fl_cast (csub hxr))) (by walk_at "m.ev") (Op2.divF hd0 (cst hrc) (lt30 hd1) (nbf sr) (nbf5 b2))) (by walk_at "m.erase") (by walk_at "m.off") ?_
    refine Ex.assign (v := Fl gc) (fun X h C => Ev.bin C ((Ev.bin C (by walk_at "m.ev") (by walk_at "m.ev") (Op2.subF (nbf hmx) (nbf hg))).cast (fl_cast (csub hxg))) (by walk_at "m.ev") (Op2.divF hd0 (cst hgc) (lt30 hd1) (nbf sg) (nbf5 b3))) (by walk_at "m.erase") (by walk_at "m.off") ?_
    refine Ex.assign (v := Fl bc) (fun X h C => Ev.bin C ((Ev.bin C (by walk_at "m.ev") (by walk_at "m.ev") (Op2.subF (nbf hmx) (nbf hb))).cast (fl_cast (csub hxb))) (by walk_at "m.ev") (Op2.divF hd0 (cst hbc) (lt30 hd1) (nbf sb) (nbf5 b4))) (by walk_at "m.erase") (by walk_at "m.off") ?_
    clear hS hrc hgc hbc hmr hmg hmb hxr hxg hxb sl sr sg sb hd0 hd1 hlt
    refine Ex.ite (c := decide ((r : Int) = mx)) (fun X h C => EvB.cmp C (by walk_at "m.ev") (by walk_at "m.ev") (Op2.eqF (nbf hr) (nbf hmx)))
      (fun hc => ⟨.next [("h", Fl (6 * h6)), ("s", Fl S), ("v", Fl mx)] [], ?_, Then.next ?_⟩) (fun hc => ⟨.next [("h", Fl (6 * h6)), ("s", Fl S), ("v", Fl mx)] [], ?_, Then.next ?_⟩)
    · rw [if_pos (dec_t hc)] at hh
      refine Ex.assign (v := Fl (6 * h6)) (fun X h C => (Ev.bin C (by walk_at "m.ev") (by walk_at "m.ev") (Op2.subF (nbf5 b4) (nbf5 b3))).cast (fl_cast hh)) (by walk_at "m.erase") (by walk_at "m.off") ?_
      exact Ex.done (by walk_at "m.sub")
    rotate_left
    · rw [if_neg (dec_f hc)] at hh
      refine Ex.ite (c := decide ((g : Int) = mx)) (fun X h C => EvB.cmp C (by walk_at "m.ev") (by walk_at "m.ev") (Op2.eqF (nbf hg) (nbf hmx)))
        (fun hc => ⟨.next [("h", Fl (6 * h6)), ("s", Fl S), ("v", Fl mx)] [], ?_, Then.next Ex.nil⟩) (fun hc => ⟨.next [("h", Fl (6 * h6)), ("s", Fl S), ("v", Fl mx)] [], ?_, Then.next Ex.nil⟩)
      · rw [if_pos (dec_t hc)] at hh
        refine Ex.assign (v := Fl (6 * h6)) (fun X h C => (Ev.bin C (Ev.bin C Ev.f2 (by walk_at "m.ev") (Op2.addF (by decide) (nbf5 b2))) (by walk_at "m.ev") (Op2.subF (nb_add (k := 1024) b2 (by decide)) (nbf5 b4))).cast (fl_cast hh)) (by walk_at "m.erase") (by walk_at "m.off") ?_
        exact Ex.done (by walk_at "m.sub")
      · rw [if_neg (dec_f hc)] at hh
        refine Ex.assign (v := Fl (6 * h6)) (fun X h C => (Ev.bin C (Ev.bin C Ev.f4 (by walk_at "m.ev") (Op2.addF (by decide) (nbf5 b3))) (by walk_at "m.ev") (Op2.subF (nb_add (k := 2048) b3 (by decide)) (nbf5 b2))).cast (fl_cast hh)) (by walk_at "m.erase") (by walk_at "m.off") ?_
        exact Ex.done (by walk_at "m.sub")
    all_goals
      refine Ex.assign (v := Fl (H : Nat)) (fun X h C => (Ev.bin C (Ev.bin C (by walk_at "m.ev") Ev.f6 (Op2.divF (c := h6) (by decide) (six_mul h6) (by decide) (nb_mul h6b) (Nat.lt_trans h6b (by decide)))) Ev.f1 (Op2.modF1 (Nat.lt_trans h6b (by decide)))).cast (fl_cast hH)) (by walk_at "m.erase") (by walk_at "m.off") ?_
      exact Ex.ret (by walk_at "m.e1")) (by intro pm code doc cvs h; obtain ⟨a, b, c, rfl⟩ := len3 h; rfl) (by decide +kernel) rfl
end
end
section
open PySem PySem.Calls PyProof.Rows
open FE
end
section
open PySem PySem.Calls PyProof.Rows
noncomputable def chk (r g b H S M : Nat) : Bool :=
  let mx := max r (max g b)
  let mn := min r (min g b)
  let d := mx - mn
  (M == mx) && (if d == 0 then H == 0 && S == 0 else
    let rc := (mx - r) * 512 / d
    let gc := (mx - g) * 512 / d
    let bc := (mx - b) * 512 / d
    let h : Int := if r == mx then (bc : Int) - gc else if g == mx then 1024 + rc - bc else 2048 + gc - rc
    (d * 512 == S * mx) && ((mx - r) * 512 == rc * d) && ((mx - g) * 512 == gc * d) && ((mx - b) * 512 == bc * d) && (h == 6 * (h / 6)) && (h / 6 % 512 == (H : Int)))
theorem chk_ok {r g b H S M : Nat} (h : chk r g b H S M = true) : M = max r (max g b) ∧ ((min r (min g b) = max r (max g b) ∧ H = 0 ∧ S = 0) ∨ (min r (min g b) < max r (max g b) ∧ RgbOk r g b H S)) := by
  unfold chk at h
  dsimp only at h
  rw [Bool.and_eq_true, beq_iff_eq] at h
  obtain ⟨h1, h2⟩ := h
  refine ⟨h1, ?_⟩
  have hle : min r (min g b) ≤ max r (max g b) := Nat.le_trans (Nat.min_le_left ..) (Nat.le_max_left ..)
  by_cases h0 : max r (max g b) - min r (min g b) = 0
  · rw [if_pos (by rw [h0]; rfl)] at h2
    simp only [Bool.and_eq_true, beq_iff_eq] at h2
    exact .inl ⟨Nat.le_antisymm hle (Nat.sub_eq_zero_iff_le.mp h0), h2.1, h2.2⟩
  · rw [if_neg (by simpa using h0)] at h2
    simp only [Bool.and_eq_true, beq_iff_eq] at h2
    obtain ⟨⟨⟨⟨⟨a1, a2⟩, a3⟩, a4⟩, a5⟩, a6⟩ := h2
    exact .inr ⟨Nat.lt_of_not_le fun h => h0 (Nat.sub_eq_zero_of_le h), ⟨_, _, _, _, a1, a2, a3, a4, a5, a6⟩⟩
noncomputable def mixN (hue share level q : Nat) : Nat × Nat × Nat :=
  if q % 2 = 1 then (0, 0, 8 * (level * (16 - share))) else (32 * (hue * min 1 (share * level)), 64 * (share * min 1 level), 64 * (2 * level))
noncomputable def chkMix (x s L q : Nat) : Bool :=
  let a := hsvN x s L
  let b := hsvN (x + 8 * q) s L
  let w := mixN x s L q
  chk (a.1 + b.1) (a.2.1 + b.2.1) (a.2.2 + b.2.2) w.1 w.2.1 w.2.2 && decide (a.1 ≤ 512) && decide (a.2.1 ≤ 512) && decide (a.2.2 ≤ 512) && decide (b.1 ≤ 512) && decide (b.2.1 ≤ 512) && decide (b.2.2 ≤ 512)
set_option maxRecDepth 100000 in
theorem chkAll : (List.range 16).all (fun x => (List.range 9).all fun s => (List.range 9).all fun L => chkMix x s L 0 && chkMix x s L 1) = true := by decide +kernel
theorem hsvN_mod {x q s L : Nat} : hsvN (x + 8 * q) s L = hsvN (x + 8 * (q % 2)) s L := by
  unfold hsvN
  have e1 : 3 * (x + 8 * q) / 8 % 6 = 3 * (x + 8 * (q % 2)) / 8 % 6 := by
    have : 3 * (x + 8 * q) = 3 * (x + 8 * (q % 2)) + 8 * (6 * (q / 2)) := by omega
    rw [this, Nat.add_mul_div_left _ _ (by decide), Nat.add_mul_mod_self_left]
  have e2 : 3 * (x + 8 * q) % 8 = 3 * (x + 8 * (q % 2)) % 8 := by
    rw [Nat.mul_add, Nat.mul_add, Nat.mul_left_comm, Nat.mul_left_comm 3 8 (q % 2), Nat.add_mul_mod_self_left, Nat.add_mul_mod_self_left]
  rw [e1, e2]
theorem chk_mix {x s L q : Nat} (hx : x < 16) (hs : s < 9) (hL : L < 9) : chkMix x s L q = true := by
  have h1 := List.all_eq_true.mp chkAll x (List.mem_range.mpr hx)
  have h2 := List.all_eq_true.mp h1 s (List.mem_range.mpr hs)
  have h3 := List.all_eq_true.mp h2 L (List.mem_range.mpr hL)
  rw [Bool.and_eq_true] at h3
  have e : chkMix x s L q = chkMix x s L (q % 2) := by
    unfold chkMix mixN
    rw [hsvN_mod, Nat.mod_mod]
  rw [e]
  rcases (by omega : q % 2 = 0 ∨ q % 2 = 1) with h | h
  · rw [h]; exact h3.1
  · rw [h]; exact h3.2
section
variable {W : Wd} {n : Nat}
set_option maxRecDepth 100000
set_option maxHeartbeats 8000000 in
theorem f_mixed (h0 : 0 < W.lo) (hW : W.ds = fns) {x s L q : Nat} (hx : x < 16) (hs : s < 9) (hL : L < 9) (hq : q ≤ 6) : Fun W (n + 2) (fn 27) [N x, N s, N L, N q] (F3 (mixN x s L q)) :=
  Fun.of ["hue", "share", "level", "pressed"] sc27 (fun A Xc env Y h₀ => by
    show Ex _ _ [("hue", N x), ("share", N s), ("level", N L), ("pressed", N q)] [] _
    have hc := chk_mix (q := q) hx hs hL
    unfold chkMix at hc
    dsimp only at hc
    simp only [Bool.and_eq_true, decide_eq_true_eq] at hc
    obtain ⟨⟨⟨⟨⟨⟨hc, a1⟩, a2⟩, a3⟩, b1⟩, b2⟩, b3⟩ := hc
    have dv : ∀ {a b c : Nat}, 0 < b → a * 512 = c * b → a < 2 ^ 30 → b < 2 ^ 30 → c < 2 ^ 30 → Fun W (n + 1) (fn 8) [N a, N b] (Fl (c : Nat)) := fun h1 h2 h3 h4 h5 => f_div fun _ => Op2.divI h1 h2 h3 h4 h5
    refine Ex.assign (v := F3 (hsvN x s L)) (fun X h C => Ev.callF C (fn 13) (EvArgs.cons (Ev.callF C (fn 8) (by walk_at "m.args") (dv (c := 32 * x) (by decide) (by omega) (by omega) (by decide) (by omega)) (by walk_at "m.ds") id8) (EvArgs.cons (Ev.callF C (fn 8) (by walk_at "m.args") (dv (c := 64 * s) (by decide) (by omega) (by omega) (by decide) (by omega)) (by walk_at "m.ds") id8) (EvArgs.cons (Ev.callF C (fn 8) (by walk_at "m.args") (dv (c := 64 * L) (by decide) (by omega) (by omega) (by decide) (by omega)) (by walk_at "m.ds") id8) EvArgs.nil))) (f_hsv h0 hW (by omega) (by omega) (by omega)) (by walk_at "m.ds") id13) (by walk_at "m.erase") (by walk_at "m.off") ?_
    refine Ex.assign (v := F3 (hsvN (x + 8 * q) s L)) (fun X h C => Ev.callF C (fn 13) (EvArgs.cons (Ev.callF C (fn 8) (EvArgs.cons (v := N (x + 8 * q)) (Ev.bin C (by walk_at "m.ev") (Ev.bin C Ev.nat (by walk_at "m.ev") (Op2.mul_nat (.inl (by decide)))) Op2.add_nat) (EvArgs.cons Ev.nat EvArgs.nil)) (dv (c := 32 * (x + 8 * q)) (by decide) (by omega) (by omega) (by decide) (by omega)) (by walk_at "m.ds") id8) (EvArgs.cons (Ev.callF C (fn 8) (by walk_at "m.args") (dv (c := 64 * s) (by decide) (by omega) (by omega) (by decide) (by omega)) (by walk_at "m.ds") id8) (EvArgs.cons (Ev.callF C (fn 8) (by walk_at "m.args") (dv (c := 64 * L) (by decide) (by omega) (by omega) (by decide) (by omega)) (by walk_at "m.ds") id8) EvArgs.nil))) (f_hsv h0 hW (by omega) (by omega) (by omega)) (by walk_at "m.ds") id13) (by walk_at "m.erase") (by walk_at "m.off") ?_
    generalize hsvN x s L = a at *
    generalize hsvN (x + 8 * q) s L = b at *
    obtain ⟨ar, ag, ab⟩ := a
    obtain ⟨br, bg, bb⟩ := b
    dsimp only at hc a1 a2 a3 b1 b2 b3
    obtain ⟨e1, e2⟩ := chk_ok hc
    generalize mixN x s L q = w at e1 e2 ⊢
    obtain ⟨H, S, M⟩ := w
    dsimp only at e1 e2
    have ad : ∀ {u v : Nat}, u ≤ 512 → v ≤ 512 → Fun W (n + 1) (fn 2) [Fl (u : Nat), Fl (v : Nat)] (Fl ((u + v : Nat) : Int)) := fun {u v} h1 h2 => f_add fun _ => by
      have e : ((u + v : Nat) : Int) = (u : Int) + v := Int.natCast_add u v
      rw [e]
      exact Op2.addF (by omega) (by omega)
    have hf : Fun W (n + 1) (fn 12) [Fl ((ar + br : Nat) : Int), Fl ((ag + bg : Nat) : Int), Fl ((ab + bb : Nat) : Int)] (F3 (H, S, M)) := by
      rw [e1]
      rcases e2 with ⟨e2, rfl, rfl⟩ | ⟨e2, R⟩
      · exact f_rgb_same h0 hW (by omega) (by omega) (by omega) e2
      · exact f_rgb h0 hW (by omega) (by omega) (by omega) e2 R
    refine Ex.ret fun X h C => ?_
    refine Ev.callF C (fn 12) (EvArgs.cons (Ev.callF C (fn 2) (EvArgs.cons (Ev.sub C (by walk_at "m.ev") Ev.nat (Op2.sub_tuple rfl (by decide))) (EvArgs.cons (Ev.sub C (by walk_at "m.ev") Ev.nat (Op2.sub_tuple rfl (by decide))) EvArgs.nil)) (ad a1 b1) (by walk_at "m.ds") id2) (EvArgs.cons (Ev.callF C (fn 2) (EvArgs.cons (Ev.sub C (by walk_at "m.ev") Ev.nat (Op2.sub_tuple rfl (by decide))) (EvArgs.cons (Ev.sub C (by walk_at "m.ev") Ev.nat (Op2.sub_tuple rfl (by decide))) EvArgs.nil)) (ad a2 b2) (by walk_at "m.ds") id2) (EvArgs.cons (Ev.callF C (fn 2) (EvArgs.cons (Ev.sub C (by walk_at "m.ev") Ev.nat (Op2.sub_tuple rfl (by decide))) (EvArgs.cons (Ev.sub C (by walk_at "m.ev") Ev.nat (Op2.sub_tuple rfl (by decide))) EvArgs.nil)) (ad a3 b3) (by walk_at "m.ds") id2) EvArgs.nil))) hf (by walk_at "m.ds") id12) (by intro pm code doc cvs h; obtain ⟨a, b, c, d, rfl⟩ := len4 h; rfl) (by decide +kernel) rfl
end
end
section
open PySem PySem.Calls PyProof.Rows
/-! comprehensions with two fors -/
theorem turn_two0 (elt t1 i1 t2 i2 : Expr) (ifs2 : List Expr) (scope : Scope) (pos : Pos) (it acc : Value) (env : Env) :
    compTurn (.ListComp elt [⟨t1, i1, [], 0⟩, ⟨t2, i2, ifs2, 0⟩] scope pos) 0 it acc env = (do
      standAt i1.pos
      match ← pyNext it with
      | none => pure (.done .next)
      | some v =>
        letOwnedTupleGo t1 it v
        assign t1 env v
        let mut ok := true
        for c in ([] : List Expr) do
          if ok then ok ← isTrue c env (eval c env)
        if ok then (do
          let x ← eval i2 env
          standAt i2.pos
          let x ← foldedSetIterable i2 env x
          let _ ← runOwn (.compStart (.ListComp elt [⟨t1, i1, [], 0⟩, ⟨t2, i2, ifs2, 0⟩] scope pos) 1 (← holding [x] (pyIter x)) acc env) env)
        again (.compLoop (.ListComp elt [⟨t1, i1, [], 0⟩, ⟨t2, i2, ifs2, 0⟩] scope pos) 0 it acc env)) := by
  have e : compTurn (.ListComp elt [⟨t1, i1, [], 0⟩, ⟨t2, i2, ifs2, 0⟩] scope pos) 0 it acc env = (do
      standAt i1.pos
      match ← pyNext it with
      | none => pure (.done .next)
      | some v =>
        letOwnedTupleGo t1 it v
        assign t1 env v
        let mut ok := true
        for c in ([] : List Expr) do
          if ok then ok ← isTrue c env (eval c env)
        if ok then
          let x ← eval i2 env
          standAt i2.pos
          let x ← foldedSetIterable i2 env x
          let _ ← runOwn (.compStart (.ListComp elt [⟨t1, i1, [], 0⟩, ⟨t2, i2, ifs2, 0⟩] scope pos) 1 (← holding [x] (pyIter x)) acc env) env
        again (.compLoop (.ListComp elt [⟨t1, i1, [], 0⟩, ⟨t2, i2, ifs2, 0⟩] scope pos) 0 it acc env)) := rfl
  rw [e]
  simp only [bind_assoc, pure_bind]
theorem turn_two1 (elt t1 i1 t2 i2 : Expr) (ifs2 : List Expr) (scope : Scope) (pos : Pos) (it acc : Value) (env : Env) :
    compTurn (.ListComp elt [⟨t1, i1, [], 0⟩, ⟨t2, i2, ifs2, 0⟩] scope pos) 1 it acc env = (do
      standAt i2.pos
      match ← pyNext it with
      | none => pure (.done .next)
      | some v =>
        letOwnedTupleGo t2 it v
        assign t2 env v
        let mut ok := true
        for c in ifs2 do
          if ok then ok ← isTrue c env (eval c env)
        if ok then (do let _ ← call (.builtin "list.append") [acc, ← eval elt env])
        again (.compLoop (.ListComp elt [⟨t1, i1, [], 0⟩, ⟨t2, i2, ifs2, 0⟩] scope pos) 1 it acc env)) := rfl
section
variable {prog : Program} {w : World} {A : Around} {s : Shared} {R : Result → Shared → Prop}
theorem start_two1 {elt t1 i1 t2 i2 : Expr} {ifs2 : List Expr} {scope : Scope} {pos : Pos} {it acc : Value} {env : Env}
    (h0 : codeAny (model prog w) A (.compLoop (.ListComp elt [⟨t1, i1, [], 0⟩, ⟨t2, i2, ifs2, 0⟩] scope pos) 1 it acc env) R s)
    (h : wpAny (model prog w) A (pyIter it) (fun it' s' => codeAny (model prog w) A (.compLoop (.ListComp elt [⟨t1, i1, [], 0⟩, ⟨t2, i2, ifs2, 0⟩] scope pos) 1 it' acc env) R s')
      (notedBy (model prog w) A env fun x s' => R (.error x) s') s) :
    codeAny (model prog w) A (.compStart (.ListComp elt [⟨t1, i1, [], 0⟩, ⟨t2, i2, ifs2, 0⟩] scope pos) 1 it acc env) R s := by
  refine codeAny_of_tree ?_
  show wpAny _ _ ((compStart (.ListComp elt [⟨t1, i1, [], 0⟩, ⟨t2, i2, ifs2, 0⟩] scope pos) 1 it acc env).onRaise (fun x => do noteFrame x env; standAt theWindowsPlace)) _ _ s
  refine wpAny_notedAt ?_
  unfold compStart
  show wpAny _ _ (ask >>= _) _ _ s
  refine wpAny_bind (wpAny_askSetting (wpAny_ite ?_))
  split
  · first
      | exact wpAny_bind (wpAny_pure (wpAny_pure (And.intro rfl h0)))
      | exact wpAny_pure (And.intro rfl h0)
  · first
      | exact wpAny_bind (wpAny_rule (wpAny_bind (wpAny_standAt (wpAny_bind (wpAny_mono h (fun it' s' h' => wpAny_pure (And.intro rfl h')) fun _ _ x => x)))))
      | (refine wpAny_bind (wpAny_rule ?_); show wpAny _ _ (standAt i2.pos >>= _) _ _ s; exact wpAny_bind (wpAny_standAt (wpAny_bind (wpAny_mono h (fun it' s' h' => wpAny_pure (And.intro rfl h')) fun _ _ x => x))))
end

section
variable {W : Wd} {A : Around} {n : Nat} {X : AS} {env : Env} {h : Heap} {nm : List (Str × NameKind)} {σ : List (Str × PV)}
/-- names bound on top of a context -/
theorem Cx.bind (C : Cx W A n X env h nm σ) {Y : AS} {m : Str → Option Value} {ys : List Str} {vs : List Value} {row : List PV} (F : Fr1 env Y h (updAll m ys vs)) (own : ∀ y ∈ ys, Own env Y y) (nd : ys.Nodup) (r : RepAll X h vs row) : Cx W A n X env h nm (ys.zip row ++ σ) :=
  ⟨C.ok, C.kind, C.names, C.globals, C.builtins, fun x v l => by
    rcases l.append with l | l
    · obtain ⟨cv, e, r, hm⟩ := zip_look (m := m) l r nd
      exact ⟨cv, F.loads (own x hm) e, r⟩
    · exact C.vars x v l, C.cells⟩

theorem inner_two {elt t1 i1 t2 i2 : Expr} {ifs2 : List Expr} {scope : Scope} {pos : Pos} {ys : List Str} {D : Addr} {Y : AS} {m : Str → Option Value} {s : Shared} {rows2 outs2 : List (List PV)}
    (hk : env.scope.kind = .function) (own : ∀ y ∈ ys, Own env Y y) (nd : ys.Nodup) (hYX : ∀ b, Y b → X b) (hXD : X D) (hDY : ¬ Y D) (F₁ : Fr1 env Y s.heap m)
    (stay : ∀ h₂ m₂, Fr1 env Y h₂ m₂ → (∀ x, x ∉ ys → m₂ x = m x) → KeptBut (fun b => Y b ∨ b = D) s.heap h₂ → Alive h₂ D → Cx W A n X env h₂ nm σ)
    (hit : EvIter W A X env s.heap i2 t2 ys rows2) (hlen : outs2.length = rows2.length) (htot : outs2.flatten.length ≤ 100000)
    (body : ∀ (j : Nat) (row2 out2 : List PV), rows2[j]? = some row2 → outs2[j]? = some out2 → ∀ h₂, Cx W A n X env h₂ nm (ys.zip row2 ++ σ) → ∃ b v, out2 = outOf b v ∧ v.flat = true ∧ EvIfs W A env h₂ ifs2 b ∧ (b = true → Ev W A X env h₂ elt v))
    (hs : ∀ x, foldedSetIterable i2 env x = pure x) (l : List PV) (hl : l.length ≤ 100000) (hlo : W.lo ≤ s.toks) (hc : CInv False s.toks X env Y D s.heap l) (Q : Unit → Shared → Prop) (E : Value → Shared → Prop)
    (q : ∀ h' tk', W.lo ≤ tk' → CInv False tk' X env Y D h' (l ++ outs2.flatten) → KeptBut (fun b => Y b ∨ b = D) s.heap h' → Q () { s with heap := h', toks := tk' }) :
    wpAny W.M A (do
          let x ← eval i2 env
          standAt i2.pos
          let x ← foldedSetIterable i2 env x
          let _ ← runOwn (.compStart (.ListComp elt [⟨t1, i1, [], 0⟩, ⟨t2, i2, ifs2, 0⟩] scope pos) 1 (← holding [x] (pyIter x)) (.ref D) env) env) Q E s := by
  have hDal : Alive s.heap D := let ⟨vs, nn, i, _, _⟩ := hc.acc; ⟨_, i⟩
  have C₀ : Cx W A n X env s.heap nm σ := stay s.heap m F₁ (fun _ _ => rfl) (.refl _) hDal
  refine wpAny_bind (wpAny_mono (hit s (fun it s₂ => wpAny W.M A (do let _ ← runOwn (.compStart (.ListComp elt [⟨t1, i1, [], 0⟩, ⟨t2, i2, ifs2, 0⟩] scope pos) 1 it (.ref D) env) env) Q E s₂) E (.refl hlo) fun I fp wr Bv St h₁ tk₁ k₁ T hB hst hfp hwr => ?_) (fun xv s₁ h₁ => ?_) fun _ _ e => e)
  rotate_left
  · refine wpAny_bind (wpAny_standAt (wpAny_bind ?_))
    rw [hs xv]
    exact wpAny_pure (wpAny_bind (wpAny_holding (wpAny_mono h₁ (fun it s₂ h₂ => h₂) fun _ _ e => e)))
  have fpY : ∀ b ∈ fp, ¬ Y b := fun b w y => (hfp b w).2 (hYX b y)
  have fpD : D ∉ fp := fun w => (hfp D w).2 hXD
  have wrD : D ∉ wr := fun w => fpD (T.sub _ w)
  have wrY : ∀ b, Y b → b ∉ wr := fun b y w => fpY b (T.sub _ w) y
  refine wpAny_bind (wpAny_runOwn ?_)
  have loop : codeAny W.M A (.compLoop (.ListComp elt [⟨t1, i1, [], 0⟩, ⟨t2, i2, ifs2, 0⟩] scope pos) 1 (.ref I) (.ref D) env) (fun r s' => match r with | .ok f => wpAny W.M A (pure () : Sem Unit) Q E s' | .error e => cameBackBy W.M A env E e s') { s with heap := h₁, toks := tk₁ } := by
    refine compLoop_gen (turn_two1 elt t1 i1 t2 i2 ifs2 scope pos (.ref I) (.ref D) env) rfl rfl (Around.under_of_weight rfl)
      (fun k s' => ∃ h' tk j, s' = { s with heap := h', toks := tk } ∧ St j h' ∧ j ≤ rows2.length ∧ k = rows2.length + 1 - j ∧ W.lo ≤ tk ∧ (∃ vs nn, IsL h' D vs.toArray nn ∧ RepAll (fun a => X a ∨ a ∈ wr) h' vs (l ++ (outs2.take j).flatten)) ∧ (∃ m', Fr1 env Y h' m' ∧ ∀ x, x ∉ ys → m' x = m x) ∧ KeptBut (fun b => Y b ∨ b = D ∨ b ∈ wr) h₁ h') ?_ (rows2.length + 1)
      ⟨h₁, tk₁, 0, rfl, hst, Nat.zero_le _, rfl, k₁.lo, ?_, ⟨m, F₁.mono k₁.le, fun _ _ => rfl⟩, .refl _⟩
    rotate_left
    · obtain ⟨vs, nn, il, rl, _⟩ := hc.acc
      refine ⟨vs, nn, k₁.le _ _ il, ?_⟩
      have r0 : RepAll (fun a => X a ∨ a ∈ wr) s.heap vs l := rl.set fun a z al => z.elim id fun w => absurd al (hwr a w)
      simpa using r0.mono k₁.le
    rintro k s' ⟨H, tk, j, rfl, hst', hj, rfl, hlo', ⟨ws, nn, hlD, hr⟩, ⟨m', F, hm'⟩, hk'⟩
    by_cases hlt : j < rows2.length
    · obtain ⟨row2, hrow⟩ : ∃ r, rows2[j]? = some r := ⟨rows2[j], List.getElem?_eq_getElem _⟩
      obtain ⟨out2, hout⟩ : ∃ r, outs2[j]? = some r := ⟨outs2[j]'(by omega), List.getElem?_eq_getElem _⟩
      refine T.item env j _ _ _ _ hlt hst' hlo' fun vs g₁ t₁ ht₁ hBv hvl hst₁ hk₁ => ?_
      have F' : Fr1 env Y g₁ m' := F.keep fun a o hy e => hk₁ a o (wrY a hy) e
      refine F'.storeAll hk own fun g₂ t₂ ht₂ F₂ k₂ => ?_
      have kk₂ : KeptBut (fun b => Y b ∨ b ∈ wr) H g₂ := fun b o n e => (k₂ b fun y => n (.inl y)).trans (hk₁ b o (fun w => n (.inr w)) e)
      have kh : KeptBut (fun b => Y b ∨ b = D ∨ b ∈ wr) h₁ g₂ := hk'.trans (kk₂.more fun b z => z.elim .inl fun w => .inr (.inr w))
      have ks : KeptBut (fun b => Y b ∨ b = D) s.heap g₂ := fun b o n e => kh b o (fun z => by
        rcases z with z | z | z
        · exact n (.inl z)
        · exact n (.inr z)
        · exact hwr b z ⟨o, e⟩) (k₁.le b o e)
      have hl₂ : IsL g₂ D ws.toArray nn := kk₂ D _ (fun z => z.elim hDY wrD) hlD
      have hagree : ∀ x, x ∉ ys → updAll m' ys vs x = m x := fun x hx => (updAll_ne hx).trans (hm' x hx)
      have C₂ := stay g₂ _ F₂ hagree ks ⟨_, hl₂⟩
      have rr : RepAll X g₂ vs row2 := by
        have r0 := hB j vs row2 hBv hrow
        have r1 : RepAll (fun a => X a ∨ a ∈ wr) g₂ vs row2 := r0.keep fun a o nx e => kh a o (fun z => by
          rcases z with z | z | z
          · exact nx (.inl (hYX a z))
          · exact nx (.inl (z ▸ hXD))
          · exact nx (.inr z)) e
        exact r1.set fun a z _ => .inl z
      have C₃ := C₂.bind F₂ own nd rr
      obtain ⟨b, v, rfl, fl, hifs, helt⟩ := body j row2 out2 hrow hout g₂ C₃
      have st₂ : St (j + 1) g₂ := T.frame _ _ _ hst₁ fun b hb o e => (k₂ b (fpY b hb)).trans e
      have htk : outs2.take (j + 1) = outs2.take j ++ [outOf b v] := by rw [List.take_add_one, hout]; rfl
      have hpre : (l ++ (outs2.take j).flatten).length ≤ 200000 := by
        have e : outs2.flatten = (outs2.take j).flatten ++ (outs2.drop j).flatten := by rw [← List.flatten_append, List.take_append_drop]
        rw [e] at htot
        simp only [List.length_append] at htot ⊢
        omega
      have hxw : ∀ b, b ∈ wr → ¬ X b := fun b w => (hfp b (T.sub _ w)).2
      have hr₂ : RepAll (fun a => X a ∨ a ∈ wr) g₂ ws (l ++ (outs2.take j).flatten) := hr.keep fun a o nx e => kk₂ a o (fun z => z.elim (fun y => nx (.inl (hYX a y))) fun w => nx (.inr w)) e
      have hlo₂ : W.lo ≤ t₂ := Nat.le_trans hlo' (Nat.le_trans ht₁ ht₂)
      -- what is left of the turn
      have fin : ∀ g₅ t₅, W.lo ≤ t₅ → KeptBut (fun b => b = D) g₂ g₅ → (∃ vs nn, IsL g₅ D vs.toArray nn ∧ RepAll (fun a => X a ∨ a ∈ wr) g₅ vs (l ++ (outs2.take (j + 1)).flatten)) →
          ∃ mm, mm < rows2.length + 1 - j ∧ ∃ h' tk j, ({ s with heap := g₅, toks := t₅ } : Shared) = { s with heap := h', toks := tk } ∧ St j h' ∧ j ≤ rows2.length ∧ mm = rows2.length + 1 - j ∧ W.lo ≤ tk ∧ (∃ vs nn, IsL h' D vs.toArray nn ∧ RepAll (fun a => X a ∨ a ∈ wr) h' vs (l ++ (outs2.take j).flatten)) ∧ (∃ m', Fr1 env Y h' m' ∧ ∀ x, x ∉ ys → m' x = m x) ∧ KeptBut (fun b => Y b ∨ b = D ∨ b ∈ wr) h₁ h' := fun g₅ t₅ lo₅ k₅ acc =>
        ⟨rows2.length + 1 - (j + 1), by omega, g₅, t₅, j + 1, rfl, T.frame _ _ _ st₂ fun b hb o e => k₅ b o (fun z => fpD (z ▸ hb)) e, hlt, rfl, lo₅, acc, ⟨_, F₂.keep fun a o hy e => k₅ a o (fun z => hDY (z ▸ hy)) e, hagree⟩, kh.trans (k₅.more fun b z => .inr (.inl z))⟩
      refine hifs { s with heap := g₂, toks := t₂ } _ _ ⟨.refl _, hlo₂⟩ fun g₃ t₃ k₃ => ?_
      cases b with
      | false =>
        simp only [Bool.false_eq_true, if_false]
        refine fin g₃ t₃ k₃.lo k₃.le.kept ⟨ws, nn, k₃.le _ _ hl₂, ?_⟩
        rw [htk, List.flatten_append]
        simpa [outOf] using hr₂.mono k₃.le
      | true =>
        simp only [if_true]
        refine wpAny_bind (helt rfl _ _ _ k₃ fun cv g₄ t₄ k₄ r₄ => wpAny_bind ?_)
        have k₂₄ := k₃.trans k₄
        have il₄ := k₂₄.le _ _ hl₂
        have rl₄ := hr₂.mono k₂₄.le
        have hwl := rl₄.length
        refine wpAny_list_append_plain (items := ws.toArray) ⟨nn, il₄⟩ (fun g₅ hl₅ hs₅ => wpAny_pure ?_) (by rw [List.size_toArray, sizeLine_eq]; omega)
        obtain ⟨n₅, il₅⟩ := hl₅
        refine fin g₅ t₄ k₂₄.lo (fun b o z e => hs₅.extBut b o z (k₂₄.le b o e)) ⟨ws ++ [cv], n₅, by simpa using il₅, ?_⟩
        rw [htk, List.flatten_append, ← List.append_assoc]
        have r5 : RepAll (fun a => X a ∨ a ∈ wr) g₅ (ws ++ [cv]) ((l ++ (outs2.take j).flatten) ++ [v]) := (rl₄.append (.cons (r₄.flat fl) .nil)).keep fun a o z e => hs₅.extBut a o (fun w => z (.inl (w ▸ hXD))) e
        simpa [outOf] using r5
    · have hjN : j = rows2.length := by omega
      subst hjN
      refine T.done _ _ _ hst' fun g₁ t₁ ht₁ hk₁ => ?_
      show wpAny W.M A (pure () : Sem Unit) Q E _
      have hall : outs2.take rows2.length = outs2 := List.take_of_length_le (by omega)
      rw [hall] at hr
      refine wpAny_pure (q g₁ t₁ (Nat.le_trans hlo' ht₁) ⟨⟨ws, nn, hk₁ _ _ wrD hlD, ?_, fun z => z.elim⟩, m', F.keep fun a o hy e => hk₁ a o (wrY a hy) e⟩ fun b o n e => hk₁ b o (fun w => hwr b w ⟨o, e⟩) (hk' b o (fun z => ?_) (k₁.le b o e)))
      · exact (hr.keep fun a o nx e => hk₁ a o (fun w => nx (.inr w)) e).set fun a z _ => .inl z
      · rcases z with z | z | z
        · exact n (.inl z)
        · exact n (.inr z)
        · exact hwr b z ⟨o, e⟩
  exact start_two1 loop (T.self 0 _ _ _ hst loop)

theorem updAll_congr {x : Str} : ∀ {xs : List Str} {vs : List Value} {m m' : Str → Option Value}, vs.length = xs.length → x ∈ xs → updAll m xs vs x = updAll m' xs vs x
  | [], _, m, m', _, h => nomatch h
  | y :: xs, [], m, m', e, h => nomatch e
  | y :: xs, v :: vs, m, m', e, h => by
    rw [updAll, updAll]
    by_cases hx : x ∈ xs
    · exact updAll_congr (by simpa using e) hx
    · rw [updAll_ne hx, updAll_ne hx]
      have : x = y := (List.mem_cons.mp h).resolve_right hx
      subst this
      rw [show upd m x v x = some v from if_pos rfl, show upd m' x v x = some v from if_pos rfl]

variable {names : List (Str × NameKind)} {ρ : List (Str × PV)}
/-- what a comprehension with two fors makes, turn by turn -/
noncomputable def Two (W : Wd) (A : Around) (n : Nat) (nm2 : List (Str × NameKind)) (σ : List (Str × PV)) (xs ys : List Str) (elt t2 i2 : Expr) (ifs2 : List Expr) (row out : List PV) : Prop :=
  ∃ rows2 outs2 : List (List PV), out = outs2.flatten ∧ outs2.length = rows2.length ∧ outs2.flatten.length ≤ 100000 ∧ (∀ X' env' h', Cx W A n X' env' h' nm2 (xs.zip row ++ σ) → EvIter W A X' env' h' i2 t2 ys rows2) ∧
    ∀ (j : Nat) (row2 out2 : List PV), rows2[j]? = some row2 → outs2[j]? = some out2 → ∀ X' env' h', Cx W A n X' env' h' nm2 (ys.zip row2 ++ (xs.zip row ++ σ)) → ∃ b v, out2 = outOf b v ∧ v.flat = true ∧ EvIfs W A env' h' ifs2 b ∧ (b = true → Ev W A X' env' h' elt v)

theorem comp2_list {elt target iter t2 i2 : Expr} {ifs2 : List Expr} {scope : Scope} {pos : Pos} {xs ys : List Str} {rows outs : List (List PV)} {ρ' : List (Str × PV)} {RR : Value → Addr → Result → Shared → Prop} {E : Value → Shared → Prop} {s s₂ : Shared}
    (C : Cx W A n X env h names ρ) (hle : Le h s.heap) (hle₂ : Le s.heap s₂.heap) (hlo : W.lo ≤ s₂.toks) (cap : Cap scope.names ρ ρ') (hkind : scope.kind = .function) (hok : compOk names scope.names xs = true) (hok2 : compOk names scope.names (xs ++ ys) = true)
    {I : Addr} {fp wr : List Addr} {N : Nat} {Bv : Nat → List Value → Prop} {St : Nat → Heap → Prop} (T : Tn W A target xs I fp wr N Bv St) (hN : rows.length = N) (hB : ∀ i vs row, Bv i vs → rows[i]? = some row → RepAll (fun a => X a ∨ a ∈ wr) s₂.heap vs row)
    (hst : St 0 s₂.heap) (hfp : ∀ b ∈ fp, Alive s₂.heap b ∧ ¬ X b) (hwr : ∀ b ∈ wr, ¬ Alive s.heap b) (hlen : outs.length = rows.length) (htot : outs.flatten.length ≤ 100000) (hs2 : ∀ x (env : Env), foldedSetIterable i2 env x = pure x)
    (body : ∀ (i : Nat) (row out : List PV), rows[i]? = some row → outs[i]? = some out → Two W A n (relN names scope.names) ρ' xs ys elt t2 i2 ifs2 row out)
    (hRR : ∀ D Cc h' tk', W.lo ≤ tk' → D ≠ Cc → (∀ b, Alive s₂.heap b → b < D) → ¬ Alive s₂.heap Cc → (∃ ml, h'.Ns Cc ml) → (∃ vs nn, IsL h' D vs.toArray nn ∧ RepAll (fun a => X a ∨ a = Cc) h' vs outs.flatten) → Le s.heap h' → RR (.ref D) Cc (.ok .next) { s₂ with heap := h', toks := tk' }) :
    wpAny W.M A (newList []) (fun acc s₃ => wpAny W.M A (newFunctionEnv scope env.globals (closL env.cells scope.names []) [] env.qual none .none (some env)) (fun cenv s₄ =>
      codeAny W.M A (.compStart (.ListComp elt [⟨target, iter, [], 0⟩, ⟨t2, i2, ifs2, 0⟩] scope pos) 0 (.ref I) acc { cenv with scope := relabel scope env }) (RR acc cenv.locals) s₄) E s₃) E s₂ := by
  have hle₀ : Le h s₂.heap := hle.trans hle₂
  have hwh : ∀ b ∈ wr, ¬ Alive h b := fun b q al => hwr b q (al.mono hle)
  refine compFrame (RR := fun acc env' s₄ => codeAny W.M A (.compStart (.ListComp elt [⟨target, iter, [], 0⟩, ⟨t2, i2, ifs2, 0⟩] scope pos) 0 (.ref I) acc env') (RR acc env'.locals) s₄) C hle₀ hkind hok fun D env' Y h₄ F => ?_
  have fpY : ∀ b ∈ fp, ¬ Y b := fun b q y => F.ynew b y (hfp b q).1
  have fpD : D ∉ fp := fun q => F.dnew (hfp D q).1
  have st₄ : St 0 h₄ := T.frame _ _ _ hst fun b q o e => F.le b o e
  have hok3 := hok2
  simp only [compOk, Bool.and_eq_true] at hok3
  obtain ⟨⟨⟨⟨⟨o1, o2⟩, o3⟩, o4⟩, o5⟩, o6⟩ := hok3
  have ownAny : ∀ x ∈ xs ++ ys, Own env' Y x := fun x hx => F.own x (by
    have := List.all_eq_true.mp o3 _ hx
    simpa using this)
  have nd := of_decide_eq_true o6
  rw [List.nodup_append] at nd
  obtain ⟨nd1, nd2, nd3⟩ := nd
  have loop : codeAny W.M A (.compLoop (.ListComp elt [⟨target, iter, [], 0⟩, ⟨t2, i2, ifs2, 0⟩] scope pos) 0 (.ref I) (.ref D) env') (RR (.ref D) env'.locals) { s₂ with heap := h₄ } := by
    refine compLoop_core (K := False) (X := fun a => X a ∨ Y a ∨ a = D ∨ a ∈ wr) (turn_two0 elt target iter t2 i2 ifs2 scope pos (.ref I) (.ref D) env') rfl rfl (Around.under_of_weight rfl)
      T F.kind (fun x hx => ownAny x (List.mem_append_left _ hx)) fpY fpD F.dy (fun b y => .inr (.inl y)) (fun b q => .inr (.inr (.inr q))) outs (hlen.trans hN) ?_ st₄ hlo [] (by simpa using htot) ⟨⟨[], 0, F.acc, .nil, fun _ v hv => nomatch hv⟩, _, F.frame⟩ ?_
    · intro i vs out s₁ m hBv hvl hout F₁ kept Q E' l hl hlo₁ c q
      have hi : i < rows.length := by
        have := (List.getElem?_eq_some_iff.mp hout).1
        omega
      obtain ⟨row, hrow⟩ : ∃ row, rows[i]? = some row := ⟨rows[i], List.getElem?_eq_getElem hi⟩
      have hDal : Alive s₁.heap D := let ⟨vs, nn, i, _, _⟩ := c.acc; ⟨_, i⟩
      have stay : ∀ h₂ m₂, Fr1 env' Y h₂ m₂ → (∀ x, x ∉ ys → m₂ x = updAll m xs vs x) → KeptBut (fun b => Y b ∨ b = D) s₁.heap h₂ → Alive h₂ D → Cx W A n (fun a => X a ∨ Y a ∨ a = D ∨ a ∈ wr) env' h₂ (relN names scope.names) (xs.zip row ++ ρ') := fun h₂ m₂ F₂ ag k₂ al₂ => by
        have e : updAll m₂ xs vs = m₂ := by
          funext x
          by_cases hx : x ∈ xs
          · rw [ag x (fun hy => nd3 x hx x hy rfl)]
            exact updAll_congr hvl hx
          · exact updAll_ne hx
        exact CF.cx (n := n) (ρ' := ρ') (xs := xs) (row := row) C F hle₀ cap hok hwh (fun b q => (hfp b (T.sub b q)).1) (m := m₂) (vs := vs) (by rw [e]; exact F₂) (kept.trans (k₂.more fun b z => z.elim .inl fun z => .inr (.inl z))) al₂ (hB i vs row hBv hrow)
      obtain ⟨rows2, outs2, rfl, hl2, ht2, hit2, hbody⟩ := body i row out hrow hout
      have C' := stay s₁.heap _ F₁ (fun _ _ => rfl) (.refl _) hDal
      refine wpAny_tests_nil ?_
      rw [if_pos rfl]
      exact inner_two F.kind (fun y hy => ownAny y (List.mem_append_right _ hy)) nd2 (fun b y => .inr (.inl y)) (.inr (.inr (.inl rfl))) F.dy F₁ stay (hit2 _ _ _ C') hl2 ht2 (fun j row2 out2 h1 h2 h₂ C₂ => hbody j row2 out2 h1 h2 _ _ _ C₂) (fun x => hs2 x env') l hl hlo₁ c Q E' q
    · intro h' tk' hlo' c kept
      have le' : Le s.heap h' := fun a o e => by
        have al : Alive s.heap a := ⟨o, e⟩
        refine kept a o (fun q => ?_) (F.le a o (hle₂ a o e))
        rcases q with q | q | q
        · exact F.ynew a q (al.mono hle₂)
        · exact F.dnew (q ▸ al.mono hle₂)
        · exact hwr a q al
      obtain ⟨⟨ws, nn, il, rl, hq⟩, m', fr⟩ := c
      obtain ⟨ml, hn, _⟩ := fr.ns
      refine hRR D env'.locals h' tk' hlo' F.dc F.above F.cnew ⟨ml, hn⟩ ⟨ws, nn, il, ?_⟩ le'
      have rl' : RepAll (fun a => X a ∨ Y a ∨ a = D ∨ a ∈ wr) h' ws outs.flatten := by simpa using rl
      exact rl'.set fun a q _ => q.elim .inl fun q => .inr (.inl (q ▸ fr.yl))
  exact codeAny_compStart_list loop (T.self 0 _ _ _ st₄ loop)

theorem Ev.comp2 {elt target iter t2 i2 : Expr} {ifs2 : List Expr} {scope : Scope} {pos : Pos} {xs ys : List Str} {rows outs : List (List PV)} {ρ' : List (Str × PV)}
    (C : Cx W A n X env h names ρ) (hit : EvIter W A X env h iter target xs rows) (cap : Cap scope.names ρ ρ') (hok : compOk names scope.names xs = true) (hok2 : compOk names scope.names (xs ++ ys) = true)
    (hlen : outs.length = rows.length) (htot : outs.flatten.length ≤ 100000)
    (body : ∀ (i : Nat) (row out : List PV), rows[i]? = some row → outs[i]? = some out → Two W A n (relN names scope.names) ρ' xs ys elt t2 i2 ifs2 row out)
    (hkind : scope.kind = .function := by rfl) (hs : ∀ x, foldedSetIterable iter env x = pure x := by intro _; rfl) (hs2 : ∀ x (env : Env), foldedSetIterable i2 env x = pure x := by intro _ _; rfl) :
    Ev W A X env h (.ListComp elt [⟨target, iter, [], 0⟩, ⟨t2, i2, ifs2, 0⟩] scope pos) (.list outs.flatten) := fun s Q E k p => by
  obtain ⟨c1, c2⟩ := compClos C hok
  rw [eval_ListComp]
  refine wpAny_comprehension_free (use := none) (cl := closL env.cells scope.names []) rfl hs c1 hkind c2 ?_
  refine hit s _ E k fun I fp wr Bv St h' tk' k₂' T hB hst hfp hwr => ?_
  have k₂ := k₂'.le
  refine comp2_list (s := s) (s₂ := { s with heap := h', toks := tk' }) (RR := fun acc Cc => compPost W.M A E none Q acc Cc) C k.le k₂ k₂'.lo cap hkind hok hok2 T rfl hB hst hfp hwr hlen htot hs2 body ?_
  rintro D Cc h₃ tk₃ hlo₃ hdc hd hc ⟨ml, hn⟩ ⟨vs, nn, il, rl⟩ le₃
  refine ⟨ml, hn, fun h₄ hs₄ => p (.ref D) h₄ tk₃ ⟨fun a o e => hs₄.extBut a o (fun q => hc ⟨o, q ▸ k₂ a o e⟩) (le₃ a o e), hlo₃⟩ (.list (n := nn) (vs := vs) (fun x => ?_) (hs₄.extBut _ _ hdc il) ?_)⟩
  · have O := (C.ok.mono k.le).mono k₂
    obtain ⟨b, hb, al⟩ := O.alive D x
    exact absurd (hd b al) (Nat.not_lt.mpr hb)
  · exact (rl.keep fun a o q e => hs₄.extBut a o (fun z => q (.inr z)) e).set fun a q _ => .inl q

theorem comp2_stored {elt target iter t2 i2 : Expr} {ifs2 : List Expr} {scope : Scope} {pos px spos : Pos} {x : Str} {xs ys : List Str} {rows outs : List (List PV)} {ρ' : List (Str × PV)} {s : Shared} {Q : Flow → Shared → Prop} {E : Value → Shared → Prop}
    (C : Cx W A n X env h names ρ) (k : LeW W.lo h s) (hit : EvIter W A X env h iter target xs rows) (cap : Cap scope.names ρ ρ') (hok : compOk names scope.names xs = true) (hok2 : compOk names scope.names (xs ++ ys) = true)
    (hlen : outs.length = rows.length) (htot : outs.flatten.length ≤ 100000)
    (body : ∀ (i : Nat) (row out : List PV), rows[i]? = some row → outs[i]? = some out → Two W A n (relN names scope.names) ρ' xs ys elt t2 i2 ifs2 row out)
    (hkind : scope.kind = .function) (hs : ∀ x, foldedSetIterable iter env x = pure x) (hs2 : ∀ x (env : Env), foldedSetIterable i2 env x = pure x)
    (hx : env.kindOf x = some .local) (hl : (px.line == pos.line) = true) (hn : (scope.names.any fun p => p.1 == x && (p.2 == .local || p.2 == .cell)) = false)
    (q : ∀ D Cc h' tk', LeW W.lo s.heap { s with heap := h', toks := tk' } → (∀ b, Alive s.heap b → b < D) → ¬ Alive s.heap Cc → D ≠ Cc → (∃ ml, h'.Ns Cc ml) → Cont (fun a => X a ∨ a = Cc) h' D (.list outs.flatten) →
      wpAny W.M A (storeName env x (.ref D)) (fun _ s'' => ∃ m, s''.heap.Ns Cc m ∧ ∀ h'', Heap.SameBut Cc s''.heap h'' → Q .next { s'' with heap := h'' }) E { s with heap := h', toks := tk' }) :
    wpAny W.M A (exec (.Assign [.Name x px] (.ListComp elt [⟨target, iter, [], 0⟩, ⟨t2, i2, ifs2, 0⟩] scope pos) spos) env) Q E s := by
  obtain ⟨c1, c2⟩ := compClos C hok
  rw [exec_Assign_Name_used _ _ _ _ (swaps_comp C.kind hx hl hn)]
  refine wpAny_bind (wpAny_standAt (wpAny_bind ?_))
  show wpAny _ A (do let _ ← comprehension (.ListComp elt [⟨target, iter, [], 0⟩, ⟨t2, i2, ifs2, 0⟩] scope pos) scope env _ (newList []) false (eval iter env) (some (assign (.Name x px) env))) _ _ s
  refine wpAny_bind (wpAny_mono (wpAny_comprehension_free (use := some (assign (.Name x px) env)) (Q := fun _ s' => Q .next s') rfl hs c1 hkind c2 ?_) (fun _ s' hq => wpAny_pure (wpAny_pure hq)) fun _ _ e => e)
  refine hit s _ E k fun I fp wr Bv St h' tk' k₂' T hB hst hfp hwr => ?_
  have k₂ := k₂'.le
  refine comp2_list (s := s) (s₂ := { s with heap := h', toks := tk' }) (RR := fun acc Cc => compPost W.M A E (some (assign (.Name x px) env)) (fun _ s' => Q .next s') acc Cc) C k.le k₂ k₂'.lo cap hkind hok hok2 T rfl hB hst hfp hwr hlen htot hs2 body ?_
  rintro D Cc h₃ tk₃ hlo₃ hdc hd hc hns ⟨vs, nn, il, rl⟩ le₃
  exact PySem.wpAny_assign_Name (q D Cc h₃ tk₃ ⟨le₃, hlo₃⟩ (fun b al => hd b (al.mono k₂)) (fun al => hc (al.mono k₂)) hdc hns (.list (n := nn) (vs := vs) il rl))
end

theorem Ex.comp2F {F : Fp} {ρ ρ' ρ₂ ow : List (Str × PV)} {r : R} {rest : List Stmt} {elt target iter t2 i2 : Expr} {ifs2 : List Expr} {scope : Scope} {pos px spos : Pos} {x : Str} {xs ys : List Str} {rows outs : List (List PV)} {v : PV}
    (hit : ∀ X h, Cx F.W F.A F.n X F.env h F.names ρ → EvIter F.W F.A X F.env h iter target xs rows) (cap : Cap scope.names ρ ρ₂) (hok : compOk F.names scope.names xs = true) (hok2 : compOk F.names scope.names (xs ++ ys) = true) (hlen : outs.length = rows.length) (hv : PV.list outs.flatten = v) (htot : outs.flatten.length ≤ 100000)
    (body : ∀ (i : Nat) (row out : List PV), rows[i]? = some row → outs[i]? = some out → Two F.W F.A F.n (relN F.names scope.names) ρ₂ xs ys elt t2 i2 ifs2 row out)
    (er : Erase x ρ ρ') (off : Off x ow) (hr : Ex F rest ((x, v) :: ρ') ow r) (loc : F.names.lookup x = some .local := by first | decide +kernel | (dsimp only; decide +kernel)) (hkind : scope.kind = .function := by rfl) (hs : ∀ x, foldedSetIterable iter F.env x = pure x := by intro _; rfl) (hs2 : ∀ x (env : Env), foldedSetIterable i2 env x = pure x := by intro _ _; rfl)
    (line : (px.line == pos.line) = true := by rfl) (free : (scope.names.any fun p => p.1 == x && (p.2 == .local || p.2 == .cell)) = false := by decide +kernel) :
    Ex F (.Assign [.Name x px] (.ListComp elt [⟨target, iter, [], 0⟩, ⟨t2, i2, ifs2, 0⟩] scope pos) spos :: rest) ρ ow r := .mk fun Z s as Q E S lo q => by
  subst hv
  have C := S.full
  refine wpAny_execs_cons (comp2_stored C (.refl lo) (hit _ _ C) cap hok hok2 hlen htot body hkind hs hs2 (by unfold Env.kindOf; rw [S.names]; exact loc) line free fun D Cc h' tk' le hd hc hdc hns ct => ?_)
  refine S.storeC (s := { s with heap := h', toks := tk' }) le.le (ownB_of loc) er off (fresh_rep S hd hdc ct) hc fun h₂ tk₂ ht₂ k₂ fin => ?_
  obtain ⟨ml, hn⟩ := hns
  refine ⟨ml, Ns.put hn fun o e => k₂ Cc o (fun y => hc (S.yalive y)) e, fun h₃ hs₃ => ?_⟩
  obtain ⟨S₃, k₃⟩ := fin h₃ fun b o n e => hs₃.extBut b o n e
  exact hr.go Z _ _ Q E S₃ (Nat.le_trans le.lo ht₂) fun f h₄ tk₄ as₄ lo₄ ra st => q f h₄ tk₄ as₄ lo₄ ra ((Step.of_kept k₃).trans st)
end
section
open PySem PySem.Calls PyProof.Rows PySem.SeqAt
/-! sorted: up to 63 items by the kit's walk; 64 that rise already here -/
section
variable {prog : Program} {w : World} {A : Around} {E : Value → Shared → Prop} {s : Shared} {a₀ : Array Keyed}

theorem asc_count {st : SortSt} {Q : Option Nat → SortSt → Prop} (h0 : IntKeys a₀) (hB : SBase a₀ st) (h2 : 2 ≤ a₀.size) (hs : SortedTo (arrOf st) a₀.size) (h : Q (some a₀.size) st) :
    wpS (model prog w) A E s (countRun' 0 a₀.size) Q st := by
  rw [countRun0_eq]
  refine wpS_bind (wpS_ascLoop h0 (Nat.le_refl _) (Nat.le_refl 1) (by omega) hB (fun i j hij hj => (show i = j by omega) ▸ Int.le_refl _) fun n hn1 hn2 hs' hor => ?_)
  have e : n = a₀.size := by
    rcases hor with e | e
    · exact e
    · by_cases hlt : n < a₀.size
      · exact absurd e (Int.not_lt.mpr (hs (n - 1) n (by omega) hlt))
      · omega
  subst e
  dsimp only
  rw [if_pos (beq_self_eq_true _)]
  exact wpS_pure h

theorem asc_runs {st : SortSt} {Q : Unit → SortSt → Prop} (h0 : IntKeys a₀) (hB : SBase a₀ st) (h64 : a₀.size = 64) (hs : SortedTo (arrOf st) a₀.size)
    (h : ∀ st', (arrOf st').Perm a₀ → failedOf st' = none → SortedTo (arrOf st') a₀.size → Q () st') : wpS (model prog w) A E s sortRuns' Q st := by
  rw [sortRuns'_eq]
  refine wpS_bind (wpS_get ?_)
  dsimp only
  have hmr : minRun' a₀.size a₀.size 0 = 32 := by rw [h64]; rfl
  rw [hB.size, hmr]
  refine wpS_bind (wpS_mono (wpS_forRange
    (I := fun x c st' => (x = 0 ∧ c = (none, 0) ∧ SBase a₀ st' ∧ SortedTo (arrOf st') a₀.size) ∨ (1 ≤ x ∧ c = (none, a₀.size) ∧ SDone a₀ st'))
    (Q := fun c st' => c = (none, a₀.size) ∧ SDone a₀ st') ?step ?fin (.inl ⟨rfl, rfl, hB, hs⟩)) ?post)
  case fin =>
    rintro c st' (⟨hx, _, _⟩ | ⟨_, hc, hD⟩)
    · omega
    · exact ⟨hc, hD⟩
  case step =>
    rintro x c st' _ hx (⟨rfl, rfl, hB', hs'⟩ | ⟨hx1, rfl, hD⟩)
    · dsimp only
      rw [if_neg (by omega)]
      rw [Nat.sub_zero, Nat.zero_add]
      refine wpS_bind (asc_count h0 hB' (by omega) hs' ?_)
      dsimp only
      rw [if_neg (by omega)]
      refine wpS_bind (wpS_get ?_)
      have hb : (pendingOf st').back? = none := by rw [hB'.pend]; rfl
      rw [hb]
      dsimp only
      exact wpS_bind (wpS_modify (wpS_pure (.inr ⟨by omega, congrArg (Prod.mk none) (Nat.zero_add _), hB'.done hs'⟩)))
    · dsimp only
      rw [if_pos (Nat.le_refl _)]
      exact wpS_pure ⟨rfl, hD⟩
  case post =>
    rintro c st' ⟨rfl, hD⟩
    dsimp only
    refine wpS_bind (wpS_mono (wpS_forRange (I := fun _ c st'' => st'' = st' ∧ c = (none, ())) (Q := fun c st'' => st'' = st' ∧ c = (none, ())) ?_ (fun _ _ hh => hh) ⟨rfl, rfl⟩) ?_)
    · rintro x c st'' _ _ ⟨rfl, rfl⟩
      refine wpS_bind (wpS_get ?_)
      rw [if_pos (by rw [hD.2.2.1]; exact Nat.le_refl 1)]
      exact wpS_pure ⟨rfl, rfl⟩
    · rintro c st'' ⟨rfl, rfl⟩
      exact wpS_pure (h _ hD.1 hD.2.1 hD.2.2.2)

theorem asc_sort_tree {a : Addr} {vs : List Value} {ns : List Int} {n : Nat} {P : Fin → Shared → Prop} (ho : s.heap.get? a = some (seqObj "list" vs.toArray n))
    (hI : IntsAre vs ns) (h64 : vs.length = 64) (hasc : SortedTo (PyProof.Rows.pairsOf vs) (PyProof.Rows.pairsOf vs).size)
    (h : ∀ (out : Array Value) (ns' : List Int), IntsAre out.toList ns' → ns'.Perm ns → ns'.Pairwise (· ≤ ·) → P (.done (.ret .none)) { s with heap := sortedHeap s.heap a vs out }) :
    wpAny (model prog w) A (Builtin.«list.sort» ⟨[.ref a], []⟩) P E s := by
  rw [list_sort_plain]
  have ha : a < s.heap.objs.size := Heap.lt_size ho
  refine wpAny_bind (listItems_at ho rfl ?_)
  refine wpAny_bind (listUpdate_at ho rfl ?_)
  obtain ⟨e1, ho1⟩ : ∃ e1, (s.heap.update a (Obj.mapSeq fun _ => #[])).get? a = some (seqObj "list" #[] e1) := ⟨_, get?_update_seq ho (fun _ => #[])⟩
  refine wpAny_bind (seqEpoch_at ho1 rfl ?_)
  refine wpAny_bind (wpAny_newTuple ?_)
  refine wpAny_bind (wpAny_newList ?_)
  refine wpAny_holding ?_
  have ho6 : (((s.heap.update a (Obj.mapSeq fun _ => #[])).push (seqObj "tuple" vs.toArray 0)).push (seqObj "list" #[] 0)).get? a = some (seqObj "list" #[] e1) := by
    rw [Heap.get?_push_ne _ _ _ (by rw [size_push', Heap.size_update]; exact Nat.ne_of_lt (Nat.lt_succ_of_lt ha)), Heap.get?_push_ne _ _ _ (by rw [Heap.size_update]; exact Nat.ne_of_lt ha)]
    exact ho1
  show wpAny (model prog w) A _ P E { s with heap := ((s.heap.update a (Obj.mapSeq fun _ => #[])).push (seqObj "tuple" vs.toArray 0)).push (seqObj "list" #[] 0) }
  dsimp only
  have fin : ∀ st' : SortSt, (arrOf st').Perm (PyProof.Rows.pairsOf vs) → SortedTo (arrOf st') (PyProof.Rows.pairsOf vs).size →
      P (.done (.ret .none)) { s with heap := sortedHeap s.heap a vs ((arrOf st').map (·.2)) } := by
    intro st' hp hs
    obtain ⟨ns', h1, h2, h3⟩ := sorted_out hI hp hs
    exact h _ ns' h1 h2 h3
  have h2 : ¬ vs.toArray.size < 2 := by rw [List.size_toArray]; omega
  rw [if_neg h2, if_neg h2]
  obtain ⟨v₁, v₂, rest, rfl⟩ : ∃ v₁ v₂ rest, vs = v₁ :: v₂ :: rest := by
    match vs, h64 with
    | v₁ :: v₂ :: rest, _ => exact ⟨v₁, v₂, rest, rfl⟩
  rw [keyKind_ints hI]
  refine wpAny_bind (wpAny_pure ?_)
  refine wpAny_bind (wpAny_mono (asc_runs (a₀ := PyProof.Rows.pairsOf (v₁ :: v₂ :: rest)) (st := SortSt.mk' oneType' ((v₁ :: v₂ :: rest).toArray.zip (v₁ :: v₂ :: rest).toArray) #[] 7 none)
    (Q := fun _ st' => (arrOf st').Perm (PyProof.Rows.pairsOf (v₁ :: v₂ :: rest)) ∧ failedOf st' = none ∧ SortedTo (arrOf st') (PyProof.Rows.pairsOf (v₁ :: v₂ :: rest)).size)
    hI.intKeys ⟨Array.Perm.refl _, rfl, rfl, rfl⟩ (by rw [PyProof.Rows.pairsOf_size]; exact h64) hasc fun st' a1 a2 a3 => ⟨a1, a2, a3⟩) ?_ fun _ _ e => e)
  rintro ⟨⟨⟩, st'⟩ s' ⟨rfl, hp, hf, hs⟩
  dsimp only
  refine wpAny_bind (seqEpoch_at ho6 rfl ?_)
  refine wpAny_bind (listUpdate_at ho6 rfl ?_ (hsz2 := by refine Nat.le_trans (Nat.le_of_eq ((Array.size_map ..).trans (hp.size_eq.trans (PyProof.Rows.pairsOf_size _)))) ?_; rw [sizeLine_eq]; omega))
  rw [hf]
  simp only [bne_self_eq_false, Bool.false_eq_true, if_false]
  exact wpAny_pure (fin st' hp hs)

theorem asc_sorted {l : Addr} {vs : List Value} {ns : List Int} {Q : Value → Shared → Prop} (hl : s.heap.IsList l vs.toArray) (hI : IntsAre vs ns) (h64 : vs.length = 64) (hasc : SortedTo (PyProof.Rows.pairsOf vs) (PyProof.Rows.pairsOf vs).size)
    (h : ∀ (out : Array Value) (ns' : List Int), IntsAre out.toList ns' → ns'.Perm ns → ns'.Pairwise (· ≤ ·) → Q (.ref (s.heap.objs.size + 1)) { s with heap := sortedAll s.heap vs out }) :
    wpAny (model prog w) A (call (.builtin "sorted") [.ref l]) Q E s := by
  refine Calls.call_function_entry kind_sorted plain_sorted entry_sorted (args_sorted1 _) ?_
  unfold Builtin.«sorted»
  refine wpAny_bind (m := checkCount "sorted" 1 1 _) (wpAny_pure ?_)
  refine wpAny_bind (collect_list hl ?_)
  refine wpAny_bind (wpAny_newList ?_)
  have hsz : ((s.heap.push (seqObj "list" #[] 0)).update s.heap.objs.size (Obj.mapSeq (· ++ vs.toArray))).objs.size = s.heap.objs.size + 1 := by
    rw [Heap.size_update, size_push']
  have hoL : (((s.heap.push (seqObj "list" #[] 0)).update s.heap.objs.size (Obj.mapSeq (· ++ vs.toArray))).push (seqObj "list" vs.toArray 0)).get? (s.heap.objs.size + 1) = some (seqObj "list" vs.toArray 0) := by
    rw [← hsz]; exact Heap.get?_push_size _ rfl
  show wpAny _ _ _ _ _ { s with heap := ((s.heap.push (seqObj "list" #[] 0)).update s.heap.objs.size (Obj.mapSeq (· ++ vs.toArray))).push (seqObj "list" vs.toArray 0) }
  rw [hsz]
  refine wpAny_bind (wpAny_holding (wpAny_call_entry slot_list_sort ⟨_, hoL, rfl⟩ entry_list_sort (asc_sort_tree hoL hI h64 hasc fun out ns' a1 a2 a3 => ⟨_, rfl, ?_⟩) (args_list_sort _)))
  exact wpAny_pure ⟨_, rfl, h out ns' a1 a2 a3⟩
end

theorem upd_kept {h : Heap} {a : Addr} (f : Obj → Obj) (n : Nat) (hn : n ≤ a) : ∀ b o, b < n → h.get? b = some o → (h.update a f).get? b = some o := fun b o hb e => by
  exact Heap.get?_update_of_ne f (show a ≠ b from fun q => Nat.lt_irrefl _ (Nat.lt_of_lt_of_le hb (q ▸ hn))) e

theorem sortedAll_le (h : Heap) (vs : List Value) (out : Array Value) : Le h (sortedAll h vs out) := fun b o e => by
  have hb := Heap.lt_size e
  unfold sortedAll sortedHeap
  refine upd_kept _ (h.objs.size + 1) (Nat.le_refl _) b o (Nat.lt_succ_of_lt hb) (Heap.get?_push_of_some _ (Heap.get?_push_of_some _ (upd_kept _ (h.objs.size + 1) (Nat.le_refl _) b o (Nat.lt_succ_of_lt hb) (Heap.get?_push_of_some _ (upd_kept _ h.objs.size (Nat.le_refl _) b o hb (Heap.get?_push_of_some _ e))))))
theorem sortedAll_at (h : Heap) (vs : List Value) (out : Array Value) : ∃ n, (sortedAll h vs out).get? (h.objs.size + 1) = some (seqObj "list" out n) := by
  unfold sortedAll sortedHeap
  have hsz : ((h.push (seqObj "list" #[] 0)).update h.objs.size (Obj.mapSeq (· ++ vs.toArray))).objs.size = h.objs.size + 1 := by
    rw [Heap.size_update, size_push']
  have hoL : (((h.push (seqObj "list" #[] 0)).update h.objs.size (Obj.mapSeq (· ++ vs.toArray))).push (seqObj "list" vs.toArray 0)).get? (h.objs.size + 1) = some (seqObj "list" vs.toArray 0) := by
    rw [← hsz]; exact Heap.get?_push_size _ rfl
  have h1 := get?_update_seq hoL (fun _ => #[])
  exact ⟨_, get?_update_seq (Heap.get?_push_of_some _ (Heap.get?_push_of_some _ h1)) (fun _ => out)⟩

theorem IntsAre.nats {X : AS} {h : Heap} : ∀ {vs : List Value} {l : List Nat}, IntsAre vs (l.map fun k : Nat => (k : Int)) → RepAll X h vs (l.map N)
  | _, [], i => by cases i; exact .nil
  | _, _ :: _, i => by
    cases i with
    | cons _ t r => exact .cons (.int _ _) (IntsAre.nats r)

theorem perm_sorted_eq {l l' : List Int} (hp : l.Perm l') (h : l.Pairwise (· ≤ ·)) (h' : l'.Pairwise (· ≤ ·)) : l = l' :=
  hp.eq_of_pairwise (fun _ _ _ _ a b => Int.le_antisymm a b) h h'

variable {W : Wd} {n : Nat}
theorem Op.sorted {l l' : List Nat} (hp : l'.Perm l) (hs : l'.Pairwise (· ≤ ·)) (hl : l.length < 64 ∨ (l.length = 64 ∧ l = l')) : Op W n (fun cvs => call (.builtin "sorted") cvs) [Ns l] (Ns l') := fun A X s cvs Q E O r p => by
  obtain ⟨_, _, rfl, ra, r⟩ := RepAll.consI r
  obtain rfl := RepAll.nilI r
  obtain ⟨ad, rfl, vs, m, na, ia, ra⟩ := Rep.listI ra
  have hi := ra.nats
  have hL : s.heap.IsList ad vs.toArray := ⟨_, ia, rfl, m, rfl⟩
  have hps : (l'.map fun k : Nat => (k : Int)).Pairwise (· ≤ ·) := List.pairwise_map.mpr (hs.imp fun h => Int.ofNat_le.mpr h)
  have fin : ∀ (out : Array Value) (ns' : List Int), IntsAre out.toList ns' → ns'.Perm (l.map fun k : Nat => (k : Int)) → ns'.Pairwise (· ≤ ·) → Q (.ref (s.heap.objs.size + 1)) { s with heap := sortedAll s.heap vs out } := by
    intro out ns' h1 h2 h3
    have e : ns' = l'.map fun k : Nat => (k : Int) := perm_sorted_eq (h2.trans (hp.map _).symm) h3 hps
    subst e
    obtain ⟨k, hk⟩ := sortedAll_at s.heap vs out
    have le := sortedAll_le s.heap vs out
    have hx : ¬ X (s.heap.objs.size + 1) := fun x => by
      obtain ⟨b, hb, o, e⟩ := O.alive _ x
      exact absurd (Nat.lt_succ_of_lt (Heap.lt_size e)) (Nat.not_lt.mpr hb)
    exact p _ _ s.toks ⟨le, O.lo⟩ (.list (vs := out.toList) (n := k) hx hk (IntsAre.nats h1))
  have hlen : vs.length = l.length := by rw [ra.length, List.length_map]
  rcases hl with h | ⟨h, e⟩
  · exact sorted_ints hL hi (hlen ▸ h) fin
  · refine asc_sorted hL hi (hlen.trans h) ?_ fin
    subst e
    intro i j hij hj
    rw [PyProof.Rows.pairsOf_size] at hj
    have key : ∀ (i : Nat) (hi' : i < vs.length), K (PyProof.Rows.pairsOf vs) i = ((l.map fun k : Nat => (k : Int))[i]?).getD 0 := by
      intro i hi'
      rw [K_eq (by rw [PyProof.Rows.pairsOf_size]; exact hi')]
      obtain ⟨c, hc, rc⟩ := ra.get (i := i) (x := N (l[i]'(by omega))) (by rw [List.getElem?_map, List.getElem?_eq_getElem (by omega)]; rfl)
      have e1 : (PyProof.Rows.pairsOf vs)[i]'(by rw [PyProof.Rows.pairsOf_size]; exact hi') = (vs[i], vs[i]) := by
        simp [PyProof.Rows.pairsOf]
      rw [e1]
      rw [List.getElem?_eq_getElem hi'] at hc
      cases hc
      rw [List.getElem?_map, List.getElem?_eq_getElem (by omega)]
      generalize vs[i] = q at rc
      cases rc
      rfl
    rw [key i (by omega), key j (by omega)]
    rw [List.getElem?_eq_getElem (by rw [List.length_map]; omega), List.getElem?_eq_getElem (by rw [List.length_map]; omega)]
    rcases Nat.lt_or_ge i j with h' | h'
    · exact (List.pairwise_iff_getElem.mp hps) i j _ _ h'
    · have : i = j := by omega
      subst this
      exact Int.le_refl _
end
section
open PySem PySem.Calls PyProof.Rows PySem.SeqAt
/-- two values compare so, wherever there is room -/
noncomputable def EqK (k : Nat) (a b : PV) (r : Bool) : Prop := ∀ A X s ca cb, A.units < k → NoneBooked s.heap → Rep X s.heap ca a → Rep X s.heap cb b → EqAt A s ca cb r

theorem EqK.int {k : Nat} {a b : Int} : EqK k (.int a) (.int b) (a == b) := fun A X s ca cb _ _ ra rb => by
  obtain ⟨t, rfl⟩ := Rep.intI ra
  obtain ⟨u, rfl⟩ := Rep.intI rb
  exact EqAt.int_int a t b u
theorem EqK.intS {k : Nat} {a : Int} : EqK k (.int a) (.int a) true := (beq_self_eq_true a) ▸ (EqK.int (k := k) (a := a) (b := a))
theorem EqK.strS {k : Nat} {a : Str} : EqK k (.str a) (.str a) true := fun A X s ca cb _ _ ra rb => by
  obtain ⟨t, rfl⟩ := Rep.strI ra
  obtain ⟨u, rfl⟩ := Rep.strI rb
  have := EqAt.str_str (A := A) (s := s) a t a u; rwa [beq_self_eq_true] at this
theorem EqK.bytesS {k : Nat} {a : Array UInt8} : EqK k (.bytes a) (.bytes a) true := fun A X s ca cb _ _ ra rb prog w E Q h => by
  obtain ⟨t, rfl⟩ := Rep.bytesI ra
  obtain ⟨u, rfl⟩ := Rep.bytesI rb
  exact PySem.W.eqBool_bytes (by rw [decide_eq_true rfl]; exact h)
theorem isSame_float {M : Model} {A : Around} {E : Value → Shared → Prop} {s : Shared} {x y : UInt64} {t u : Tok} {Q : Bool → Shared → Prop} (ht : 0 < t) (hu : 0 < u) (hb : NoneBooked s.heap) (hq : ∀ b, Q b s) : wpAny M A (isSame (.float x t) (.float y u)) Q E s := by
  show wpAny M A (isSame.created _ t u) Q E s
  have h0 : (t == 0 || u == 0) = false := by rw [beq_false_of_ne (Nat.ne_of_gt ht), beq_false_of_ne (Nat.ne_of_gt hu)]; rfl
  unfold isSame.created
  refine wpAny_ite ?_
  split
  · rename_i h; rw [h0] at h; exact absurd h Bool.false_ne_true
  refine wpAny_ite ?_
  split
  · exact wpAny_pure (hq _)
  refine wpAny_ite ?_
  split
  · exact wpAny_pure (hq _)
  refine wpAny_bind (wpAny_sharingNotTold_none hb ?_)
  first | rw [if_neg Bool.false_ne_true] | simp only [Bool.false_eq_true, if_false]
  refine wpAny_bind (wpAny_sharingNotTold_none hb ?_)
  first | rw [if_neg Bool.false_ne_true] | simp only [Bool.false_eq_true, if_false]
  exact wpAny_bind (wpAny_rule (wpAny_bind (wpAny_askSetting (wpAny_pure (hq _)))))
theorem EqK.floatS {k : Nat} {a : Int} (ha : a.natAbs < 2 ^ 30) : EqK k (Fl a) (Fl a) true := fun A X s ca cb _ hb ra rb prog w E Q h => by
  obtain ⟨t, rfl, pt⟩ := Rep.floatI ra
  obtain ⟨u, rfl, pu⟩ := Rep.floatI rb
  unfold eqBool
  refine wpAny_holding ?_
  refine wpAny_ite_split (fun _ => wpAny_bind (wpAny_rule (wpAny_pure h))) (fun _ => ?_)
  refine wpAny_bind (isSame_float pt pu hb fun b => ?_)
  have hr : wpAny (model prog w) A (richCompare .Eq (.float (FE.EF a) t) (.float (FE.EF a) u) >>= fun v => truthOfDropped v) Q E s := by
    refine wpAny_bind ?_
    refine AutoFloatOps.eq_0 ?_
    rw [cmp_eq (by omega) (by omega), decide_eq_true rfl]
    exact wpAny_truthy_bool h
  cases b with
  | true => exact wpAny_pure h
  | false => exact hr

theorem range_all {n : Nat} {e : Nat → Bool} (h : ∀ i, e i = true) : (List.range n).all e = true := by simp [h]

section
variable {W : Wd} {n k : Nat} {l l' : List PV}
/-- item by item the same -/
noncomputable def Sames (k : Nat) (l l' : List PV) : Prop := l.length = l'.length ∧ ∀ (i : Nat) x y, l[i]? = some x → l'[i]? = some y → EqK k x y true
theorem Sames.at {k : Nat} {l l' : List PV} (h : Sames (k + 1) l l') {A : Around} {X : AS} {s : Shared} {vs vs' : List Value} (hk : A.units < k) (hb : NoneBooked s.heap) (r : RepAll X s.heap vs l) (r' : RepAll X s.heap vs' l') :
    ∀ j (h1 : j < vs.toArray.size) (h2 : j < vs'.toArray.size), EqAt A.in1 s vs.toArray[j] vs'.toArray[j] true := by
  intro j h1 h2
  rw [List.size_toArray] at h1 h2
  obtain ⟨x, hx, rx⟩ := r.get' (List.getElem?_eq_getElem h1)
  obtain ⟨y, hy, ry⟩ := r'.get' (List.getElem?_eq_getElem h2)
  have := h.2 j x y hx hy A.in1 X s _ _ (by show A.units + 1 < k + 1; omega) hb rx ry
  simpa using this
theorem EqK.tuple (h : Sames (k + 1) l l') (hk : k ≤ 9500) : EqK k (.tuple l) (.tuple l') true := fun A X s ca cb hu hb ra rb => by
  obtain ⟨a, rfl, vs, na, nx, ia, ra⟩ := Rep.tupleI ra
  obtain ⟨b, rfl, vs', nb, ny, ib, rb⟩ := Rep.tupleI rb
  by_cases hab : a = b
  · subst hab; exact EqAt.same _
  · refine EqAt.of_refs hab ?_
    have := RcAt.tuples (A := A) (e := fun _ => true) ⟨_, ia, rfl, na, rfl⟩ ⟨_, ib, rfl, nb, rfl⟩ (by show A.units < 9900; omega) (h.at hu hb ra rb)
    rw [range_all fun _ => rfl, List.size_toArray, List.size_toArray, ra.length, rb.length, h.1, beq_self_eq_true] at this
    exact this
theorem EqK.list (h : Sames (k + 1) l l') (hk : k ≤ 9500) : EqK k (.list l) (.list l') true := fun A X s ca cb hu hb ra rb => by
  obtain ⟨a, rfl, vs, na, nx, ia, ra⟩ := Rep.listI ra
  obtain ⟨b, rfl, vs', nb, ny, ib, rb⟩ := Rep.listI rb
  by_cases hab : a = b
  · subst hab; exact EqAt.same _
  · refine EqAt.of_refs hab ?_
    have := RcAt.lists (A := A) (e := fun _ => true) ⟨_, ia, rfl, na, rfl⟩ ⟨_, ib, rfl, nb, rfl⟩ (by rw [List.size_toArray, List.size_toArray, ra.length, rb.length, h.1]) (by show A.units < 9900; omega) (h.at hu hb ra rb)
    rw [range_all fun _ => rfl] at this
    exact this
theorem Sames.of_map {α : Type} {k : Nat} {f : α → PV} {l : List α} (h : ∀ x ∈ l, EqK k (f x) (f x) true) : Sames k (l.map f) (l.map f) := ⟨rfl, fun i x y hx hy => by
  rw [hx] at hy
  cases hy
  rw [List.getElem?_map] at hx
  cases e : l[i]? with
  | none => rw [e] at hx; cases hx
  | some z => rw [e] at hx; cases hx; exact h z (List.mem_of_getElem? e)⟩
theorem Sames.nats {l : List Nat} : Sames k (l.map N) (l.map N) := .of_map fun _ _ => EqK.intS
theorem Sames.ints {l : List Int} : Sames k (l.map .int) (l.map .int) := .of_map fun _ _ => EqK.intS
theorem Sames.strs {l : List Str} : Sames k (l.map .str) (l.map .str) := .of_map fun _ _ => EqK.strS

theorem Op2.eqL (h : Sames 9001 l l') : Op2 W n (compareOp .Eq) (.list l) (.list l') (.bool true) := fun A X s ca cb Q E O ra rb p => by
  obtain ⟨a, rfl, vs, na, nx, ia, ra⟩ := Rep.listI ra
  obtain ⟨b, rfl, vs', nb, ny, ib, rb⟩ := Rep.listI rb
  have hu : A.units < 9000 := by have := O.room.units; omega
  refine RcAt.lists (A := A) (s := s) (e := fun _ => true) ⟨_, ia, rfl, na, rfl⟩ ⟨_, ib, rfl, nb, rfl⟩ (by rw [List.size_toArray, List.size_toArray, ra.length, rb.length, h.1]) (by show A.units < 9900; omega) (h.at hu O.base.nb ra rb) _ _ _ _ ?_
  rw [range_all fun _ => rfl]
  exact p.here O.lo (.bool _)
theorem Op2.neL (h : Sames 9001 l l') : Op2 W n (compareOp .NotEq) (.list l) (.list l') (.bool false) := fun A X s ca cb Q E O ra rb p => by
  obtain ⟨a, rfl, vs, na, nx, ia, ra⟩ := Rep.listI ra
  obtain ⟨b, rfl, vs', nb, ny, ib, rb⟩ := Rep.listI rb
  have hu : A.units < 9000 := by have := O.room.units; omega
  refine RcNeAt.lists (A := A) (s := s) (e := fun _ => true) ⟨_, ia, rfl, na, rfl⟩ ⟨_, ib, rfl, nb, rfl⟩ (by rw [List.size_toArray, List.size_toArray, ra.length, rb.length, h.1]) (by show A.units < 9900; omega) (h.at hu O.base.nb ra rb) _ _ _ _ ?_
  rw [range_all fun _ => rfl]
  exact p.here O.lo (.bool _)
theorem Op2.eq_nil : Op2 W n (compareOp .Eq) (.list l) (.list []) (.bool l.isEmpty) := by
  cases l with
  | nil => exact Op2.eqL ⟨rfl, fun i x y hx hy => by cases hy⟩
  | cons c r =>
      intro A X s ca cb Q E O ra rb p
      obtain ⟨a, rfl, vs, na, nx, ia, ra⟩ := Rep.listI ra
      obtain ⟨b, rfl, vs', nb, ny, ib, rb⟩ := Rep.listI rb
      refine RcAt.lists_lengths (A := A) (s := s) ⟨_, ia, rfl, na, rfl⟩ ⟨_, ib, rfl, nb, rfl⟩ (by rw [List.size_toArray, List.size_toArray, ra.length, rb.length]; rfl) O.room.cline _ _ _ _ (p.here O.lo (.bool _))
noncomputable def hitInt (x : Int) : Value → Bool
  | .int a _ => a == x
  | _ => false
theorem hit_any {X : AS} {h : Heap} {x : Nat} : ∀ {vs : List Value} {l : List Nat}, RepAll X h vs (l.map N) → vs.any (hitInt x) = l.contains x
  | _, [], r => by cases r; rfl
  | _, y :: l, r => by
    obtain ⟨_, _, rfl, a, r'⟩ := RepAll.consI r
    obtain ⟨t, rfl⟩ := Rep.intI a
    rw [List.any_cons, hit_any r', List.contains_cons]
    congr 1
    show ((y : Int) == (x : Int)) = (x == y)
    rw [Bool.eq_iff_iff, beq_iff_eq, beq_iff_eq]
    omega
theorem Op2.in_Ns {x : Nat} {l : List Nat} : Op2 W n (compareOp .In) (N x) (Ns l) (.bool (l.contains x)) := fun A X s ca cb Q E O ra rb p => by
  obtain ⟨t, rfl⟩ := Rep.intI ra
  obtain ⟨b, rfl, vs, nb, ny, ib, rb⟩ := Rep.listI rb
  refine in_listAt (hitInt x) ⟨_, ib, rfl, nb, rfl⟩ (fun y hy => ?_) ?_
  · have hy' : y ∈ vs := by simpa using hy
    obtain ⟨j, hj⟩ := List.mem_iff_getElem?.mp hy'
    obtain ⟨z, hz, rz⟩ := rb.get' hj
    rw [List.getElem?_map] at hz
    cases e : l[j]? with
    | none => rw [e] at hz; cases hz
    | some k => rw [e] at hz; cases hz; cases rz with
      | int _ u => exact EqAt.int_int (k : Int) u (x : Int) t
  · rw [List.any_toArray, hit_any rb]
    exact p.here O.lo (.bool _)
theorem Op2.ne_bool {a b : Bool} : Op2 W n (compareOp .NotEq) (.bool a) (.bool b) (.bool (a != b)) := fun A X s ca cb Q E O ra rb p => by
  obtain rfl := Rep.boolI ra; obtain rfl := Rep.boolI rb
  exact RcNeAt.bool_bool (A := A) (s := s) a b _ _ _ _ (p.here O.lo (.bool _))
theorem Op.ord {c : Nat} : Op W n (fun cvs => call (.builtin "ord") cvs) [.str ⟨#[c]⟩] (N c) := fun A X s cvs Q E O r p => by
  obtain ⟨_, _, rfl, ra, r⟩ := RepAll.consI r
  obtain rfl := RepAll.nilI r
  obtain ⟨t, rfl⟩ := Rep.strI ra
  exact PySem.P.ord_of_char (p.at1 O.lo (.int _ _))
theorem Op.bytes {l : List Nat} (h : ∀ x ∈ l, x < 256) (hl : l.length ≤ 1000) : Op W n (fun cvs => call (.type "bytes") cvs) [Ns l] (.bytes (l.map fun x => x.toUInt8).toArray) := fun A X s cvs Q E O r p => by
  obtain ⟨_, _, rfl, ra, r⟩ := RepAll.consI r
  obtain rfl := RepAll.nilI r
  obtain ⟨a, rfl, vs, na, nx, ia, ra⟩ := Rep.listI ra
  have hi := ra.nats
  refine wpAny_toks (call_bytes_ints ⟨_, ia, rfl, na, rfl⟩ hi (fun z hz => ?_) (by rw [ra.length, List.length_map, sizeLine_eq]; omega) O.room.handled fun h' t k hk => fun ht => ?_)
  · obtain ⟨x, hx, rfl⟩ := List.mem_map.mp hz
    have := h x hx
    omega
  · have e : byteArr (l.map fun k : Nat => (k : Int)) = (l.map fun x => x.toUInt8).toArray := by
      unfold byteArr
      rw [List.map_map]
      rfl
    rw [e]
    exact p _ h' k ⟨hk, Nat.le_trans O.lo ht⟩ (.bytes _ _)
end
end
section
open PySem PySem.Calls PyProof.Rows PySem.SeqAt
section
variable {W : Wd} {A : Around} {n : Nat} {X : AS} {env : Env} {h : Heap} {names : List (Str × NameKind)} {ρ : List (Str × PV)}

theorem float_meta : typeOf (.type "float") = pure (.type "type") := PySem.F.isi_meta_float
/-- isinstance(x, float) -/
theorem Ev.isFloat (C : Cx W A n X env h names ρ) {p p2 pos : Pos} {e : Expr} {v : UInt64} (he : Ev W A X env h e (.float v))
    (hs : starEach [e, .Name "float" p2] env = [(false, eval e env), (false, eval (.Name "float" p2) env)] := by rfl)
    (hk : names.lookup ("isinstance" : Str) = some .globalImplicit := by first | decide +kernel | (dsimp only; decide +kernel)) (hk2 : names.lookup ("float" : Str) = some .globalImplicit := by first | decide +kernel | (dsimp only; decide +kernel)) :
    Ev W A X env h (.Call (.Name "isinstance" p) [e, .Name "float" p2] [] pos) (.bool true) := fun s Q E k q => by
  have O := C.ok.at k
  obtain ⟨hg, hb⟩ := O.base.bi ("isinstance", .builtin "isinstance") (used_b (by decide +kernel))
  obtain ⟨hg2, hb2⟩ := O.base.bi ("float", .type "float") (used_t (by decide +kernel))
  refine wpAny_Call_NameR (Name_function_global C.kind (by unfold Env.kindOf; rw [C.names]; exact hk) (loadGlobal_builtin (C.globals ▸ O.base.g) hg (C.builtins ▸ O.base.b) hb ?_) (by decide +kernel))
  rw [hs]
  refine callWith_builtin rfl (evalArgs_plain (spliced_cons (he s _ E k fun cv h₁ tk₁ k₁ r => ?_)))
  have O₁ := O.mono k₁
  refine spliced_cons (Name_function_global C.kind (by unfold Env.kindOf; rw [C.names]; exact hk2) (loadGlobal_builtin (C.globals ▸ O₁.base.g) hg2 (C.builtins ▸ O₁.base.b) hb2 ?_) (by decide +kernel))
  refine spliced_nil ?_
  obtain ⟨t, rfl, pt⟩ := Rep.floatI r
  exact call_isinstance (isinstance_true (Tx := "float") float_meta (by rw [isSubtype_type]; kernel_rfl)) ⟨AutoFloatOps.typeIs_float _ _ _, q _ h₁ tk₁ k₁ (.bool _)⟩

theorem str_key {w : World} {prog : Program} {k : Str} {v : Value} (h : (PySem.strKind prog w).is k v = true) : ∃ t, v = .str k t := Value.isStrOf_shape h

/-- list(d.items()) -/
theorem Ev.itemsList (C : Cx W A n X env h names ρ) {p apos p2 pos : Pos} {e : Expr} {P : Nat → Prop} {l : List (Str × Str)} (he : Ev W A X env h e (.dict (hashStr W.w) P l)) (hl : l.length ≤ 1000)
    (hbase : attributeBase e "items" env (eval e env) = eval e env := by rfl) (hline : (apos.endLine == p2.line) = true := by rfl)
    (hs : starEach [.Call (.Attribute e "items" apos) [] [] p2] env = [(false, eval (.Call (.Attribute e "items" apos) [] [] p2) env)] := by rfl)
    (hk : names.lookup ("list" : Str) = some .globalImplicit := by first | decide +kernel | (dsimp only; decide +kernel)) :
    Ev W A X env h (.Call (.Name "list" p) [.Call (.Attribute e "items" apos) [] [] p2] [] pos) (.list (l.map fun q => .tuple [.str q.1, .str q.2])) := fun s Q E k q => by
  have O := C.ok.at k
  obtain ⟨hg, hb⟩ := O.base.bi ("list", .type "list") (used_t (by decide +kernel))
  refine wpAny_Call_NameR (Name_function_global C.kind (by unfold Env.kindOf; rw [C.names]; exact hk) (loadGlobal_builtin (C.globals ▸ O.base.g) hg (C.builtins ▸ O.base.b) hb ?_) (by decide +kernel))
  rw [hs]
  refine PySem.callWith_type rfl (evalArgs_plain (spliced_cons ?_))
  refine wpAny_Call_method_lateS hbase rfl hline (he s _ E k fun co h₁ tk₁ k₁ ro => ?_)
  have O₁ := O.mono k₁
  obtain ⟨a, rfl, na, D⟩ := Rep.dictI ro
  obtain ⟨hsm, nd, es, ep, ho, r⟩ := D
  have DE : DictE P W.w h₁ a es ep l := ⟨ho, r, nd⟩
  obtain ⟨kvs, hD, hlen, hat, hnd⟩ := DE.at (prog := W.prog)
  refine ⟨"dict", "dict.items", PySem.F.plainAttrs_dict, PySem.F.slot_dict_items, PySem.F.type_dict_items, ⟨_, ho, rfl⟩, fun b e => by cases e; exact ⟨_, ho, rfl⟩, ?_⟩
  refine callWith_builtin rfl (PySem.evalArgs_none ?_)
  refine call_meetsIn PySem.F.slot_dict_items ⟨_, ho, rfl⟩ PySem.F.entry_dict_items (PySem.F.args_dict_items_1 _) (meets_dict_items (PySem.strKind W.prog W.w) a hsm) ⟨⟨kvs, hD.dictOf⟩, ?_⟩
  refine spliced_nil ?_
  have hD' := hD.push { cls := .type "dict_items", data := .fields #[.ref a] }
  refine wpAny_toks (PySem.W.kdx_call (s := { s with heap := h₁.push { cls := .type "dict_items", data := .fields #[.ref a] }, toks := tk₁ }) (knd := PySem.strKind W.prog W.w) (kvs := kvs) (ep := ep) O.room.handled ⟨_, Heap.get?_push_size _ rfl, rfl, rfl⟩ hD' (by rw [hlen, sizeLine_eq]; omega) fun h' tk acc c as hk hS hla hG hacc => fun ht => ?_)
  have le : Le h₁ h' := fun b o e => hk b o (Heap.get?_push_of_some _ e)
  have hX : ∀ b, h₁.objs.size ≤ b → ¬ X b := fun b hb x => by
    obtain ⟨d, hd, al, e⟩ := O₁.alive b x
    exact absurd (Heap.lt_size e) (Nat.not_lt.mpr (Nat.le_trans hb hd))
  have hsz : h₁.objs.size < (h₁.push { cls := .type "dict_items", data := .fields #[.ref a] }).objs.size := by rw [Heap.size_push]; exact Nat.lt_succ_self _
  refine q _ h' tk ⟨k₁.le.trans le, Nat.le_trans k₁.lo ht⟩ (.list (vs := as.map Value.ref) (n := c) (hX _ (Nat.le_of_lt hsz)) (by rw [← hacc]; simpa using hS) ?_)
  have key : ∀ (as : List Addr) (l : List (Str × Str)), as.length = l.length → (∀ (j : Nat) (a : Addr) (p : Str × Str), as[j]? = some a → l[j]? = some p → ∃ t u, h'.get? a = some { cls := .type "tuple", data := .seq #[.str p.1 t, .str p.2 u] }) → (∀ a ∈ as, ¬ X a) →
      RepAll X h' (as.map Value.ref) (l.map fun q => .tuple [.str q.1, .str q.2]) := by
    intro as
    induction as with
    | nil => intro l hl _ _; cases l with
      | nil => exact .nil
      | cons _ _ => cases hl
    | cons a r ih =>
      intro l hl hp hx
      cases l with
      | nil => cases hl
      | cons p l =>
        obtain ⟨t, u, e⟩ := hp 0 a p rfl rfl
        refine .cons (.tuple (vs := [.str p.1 t, .str p.2 u]) (n := 0) (hx a (.head _)) e (.cons (.str _ _) (.cons (.str _ _) .nil))) (ih l (by simpa using hl) (fun j a p h1 h2 => hp (j + 1) a p h1 h2) fun a ha => hx a (.tail _ ha))
  refine key as l (hla.trans hlen) (fun j b p hj hp => ?_) fun b hb => hX b (Nat.le_of_lt (Nat.lt_trans hsz (hG.above b hb)))
  obtain ⟨kv, kk, x, e1, e2, e3⟩ := hG.pairs j b hj
  obtain ⟨u, hu⟩ := hat j p hp
  rw [hu] at e1
  cases e1
  obtain ⟨t, rfl⟩ := str_key e2
  exact ⟨t, u, e3⟩
end
end
section
open PySem PySem.Calls PyProof.Rows PySem.SeqAt
/-- a new list whose strs' tokens lie below the count at the end -/
noncomputable def EvNK (W : Wd) (A : Around) (X : AS) (env : Env) (h : Heap) (e : Expr) (l : List PV) : Prop :=
  ∀ (s : Shared) (Q : Value → Shared → Prop) (E : Value → Shared → Prop), LeW W.lo h s →
    (∀ a h' tk' vs nn, LeW W.lo s.heap { s with heap := h', toks := tk' } → (∀ b, Alive s.heap b → b < a) → IsL h' a (List.toArray vs) nn → RepAll X h' vs l → (∀ v ∈ vs, TokOk tk' v) → Q (.ref a) { s with heap := h', toks := tk' }) → wpAny W.M A (eval e env) Q E s

section
variable {W : Wd} {A : Around} {n : Nat} {X : AS} {env : Env} {h : Heap} {names : List (Str × NameKind)} {ρ : List (Str × PV)}
theorem EvNK.comp {elt target iter : Expr} {ifs : List Expr} {scope : Scope} {pos : Pos} {xs : List Str} {rows outs : List (List PV)} {ρ' : List (Str × PV)}
    (C : Cx W A n X env h names ρ) (hit : EvIter W A X env h iter target xs rows) (cap : Cap scope.names ρ ρ') (hok : compOk names scope.names xs = true)
    (hlen : outs.length = rows.length) (htot : outs.flatten.length ≤ 100000)
    (body : ∀ (i : Nat) (row out : List PV), rows[i]? = some row → outs[i]? = some out → ∀ X' env' h', Cx W A n X' env' h' (relN names scope.names) (xs.zip row ++ ρ') →
      ∃ b v, out = outOf b v ∧ EvIfs W A env' h' ifs b ∧ (b = true → EvK True W A X' env' h' elt v))
    (hkind : scope.kind = .function := by rfl) (hs : ∀ x, foldedSetIterable iter env x = pure x := by intro _; rfl) :
    EvNK W A X env h (.ListComp elt [⟨target, iter, ifs, 0⟩] scope pos) outs.flatten := fun s Q E k p => by
  obtain ⟨c1, c2⟩ := compClos C hok
  rw [eval_ListComp]
  refine wpAny_comprehension_free (use := none) (cl := closL env.cells scope.names []) rfl hs c1 hkind c2 ?_
  refine hit s _ E k fun I fp wr Bv St h' tk' k₂' T hB hst hfp hwr => ?_
  have k₂ := k₂'.le
  refine comp_list True (s := s) (s₂ := { s with heap := h', toks := tk' }) (RR := fun acc Cc => compPost W.M A E none Q acc Cc) C k.le k₂ k₂'.lo cap hkind hok T rfl hB hst hfp hwr hlen htot body ?_
  rintro D Cc h₃ tk₃ hlo₃ hdc hd hc ⟨ml, hn⟩ ⟨vs, nn, il, rl, tok⟩ le₃
  refine ⟨ml, hn, fun h₄ hs₄ => p D h₄ tk₃ vs nn ⟨fun a o e => hs₄.extBut a o (fun q => hc ⟨o, q ▸ k₂ a o e⟩) (le₃ a o e), hlo₃⟩ (fun b al => hd b (al.mono k₂)) (hs₄.extBut _ _ hdc il) ?_ (tok trivial)⟩
  exact (rl.keep fun a o q e => hs₄.extBut a o (fun z => q (.inr z)) e).set fun a q _ => .inl q

theorem EvK.idx (C : Cx W A n X env h names ρ) {x : Str} {slice : Expr} {kd : Nat} {p1 pos : Pos} {i : Int} {c : Nat} (hi : Ev W A X env h slice (.int i)) (hr : (decide (i < -(2 ^ 63 : Int)) || decide (i ≥ 2 ^ 63)) = false) (hc : (seqIndex? i x.length).bind (x.cps[·]?) = some c)
    (hs : ∀ o i, subscripted slice false o i = operate [o, i] (getItem o i) := by intro _ _; with_unfolding_all rfl) : EvK True W A X env h (.Subscript (.Constant (.str x) kd p1) slice pos) (.str ⟨#[c]⟩) := fun s Q E k q => by
  have k1 : LeW W.lo s.heap { s with heap := s.heap, toks := s.toks + 1 } := ⟨.refl _, Nat.le_succ_of_le k.lo⟩
  refine Subscript_ (Constant_str (wpAny_toks (hi _ _ _ (k.trans k1) fun cb h₂ tk₂ k₂ rb => fun ht => ?_)))
  obtain ⟨_, rfl⟩ := Rep.intI rb
  have k3 := k1.trans k₂
  have hpos : 0 < tk₂ := Nat.lt_of_lt_of_le (Nat.succ_pos _) ht
  exact tail_any (typeIs_str _ _ _) PySem.F.slot_str_getitem.lookup (PySem.P.getItem_str hr hc (q _ h₂ (tk₂ + 1) ⟨k3.le, Nat.le_succ_of_le k3.lo⟩ (.str _ _) fun _ y t e => by cases e; exact ⟨hpos, Nat.lt_succ_self _⟩)) (hs _ _)

theorem RepAll.strTok {X : AS} {h : Heap} {tk : Nat} {vs : List Value} {ys : List Str} (r : RepAll X h vs (ys.map .str)) (tok : ∀ v ∈ vs, TokOk tk v) : RepAll X h vs (ys.map (.strP fun t => 0 < t ∧ t < tk)) := by
  induction ys generalizing vs with
  | nil => exact r
  | cons y ys ih =>
    obtain ⟨v, ws, rfl, a, b⟩ := RepAll.consI r
    obtain ⟨t, rfl⟩ := Rep.strI a
    exact .cons (.strP _ _ (tok _ (.head _) _ _ rfl)) (ih b fun v hv => tok v (.tail _ hv))

theorem EvK.join (C : Cx W A n X env h names ρ) {sep : Str} {ys : List Str} {e : Expr} {kd : Nat} {p1 apos pos : Pos} (ha : EvNK W A X env h e (ys.map .str)) (hl : (ys.map (·.length)).sum + ys.length * sep.length ≤ 100000)
    (hs : starEach [e] env = [(false, eval e env)] := by rfl) (hline : (apos.endLine == pos.line) = true := by rfl) :
    EvK True W A X env h (.Call (.Attribute (.Constant (.str sep) kd p1) "join" apos) [e] [] pos) (.str (Str.join sep ys)) := fun s Q E k q => by
  have k1 : LeW W.lo s.heap { s with heap := s.heap, toks := s.toks + 1 } := ⟨.refl _, Nat.le_succ_of_le k.lo⟩
  refine wpAny_Call_method_lateS rfl (by rw [hs]; rfl) hline (Constant_str ?_)
  refine ⟨"str", "str.join", PySem.F.plainAttrs_str, PySem.F.slot_str_join, PySem.F.type_str_join, typeIs_str _ _ _, (fun b e => nomatch e), ?_⟩
  rw [hs]
  refine callWith_builtin rfl (evalArgs_plain (spliced_cons (wpAny_toks (ha _ _ _ (k.trans k1) fun a h₂ tk₂ vs nn k₂ hd il rl tok => fun ht => spliced_nil ?_))))
  have hpos : 0 < tk₂ := Nat.lt_of_lt_of_le (Nat.succ_pos _) ht
  have k3 := k1.trans k₂
  obtain ⟨l, rfl, rfl, hp⟩ := (rl.strTok tok).strs
  have hok := joinOk_of (sep := sep) (ys := l.map (·.1)) (by omega)
  unfold JoinOk at hok
  rw [Bool.not_eq_true'] at hok
  have hfit := joinFit_length hok
  have hj : Txt.join sep (l.map (·.1)) = Str.join sep (l.map (·.1)) := StrLaws.glued_eq_join _ _
  rw [hj] at hfit
  refine call_meets PySem.F.slot_str_join (typeIs_str _ _ _) PySem.F.entry_str_join (PySem.F.args_str_join_2 _ _) (meets_str_join_list sep _ a l hok) ⟨il.isList, ?_⟩
  have fresh : ∀ z : Str, TokOk (tk₂ + 1) (.str z tk₂) := fun z y t e => by cases e; exact ⟨hpos, Nat.lt_succ_self _⟩
  show (joinMade sep l).post Q _
  cases l with
  | nil => exact ⟨hfit, q _ h₂ (tk₂ + 1) ⟨k3.le, Nat.le_succ_of_le k3.lo⟩ (.str _ _) fun _ => fresh _⟩
  | cons z r =>
    cases r with
    | nil => exact q _ h₂ tk₂ k3 (.str _ _) fun _ y t e => by cases e; exact hp z (.head _)
    | cons z' r' =>
      refine ⟨by rw [StrLaws.glued_eq_join]; exact hfit, ?_⟩
      rw [StrLaws.glued_eq_join]
      exact q _ h₂ (tk₂ + 1) ⟨k3.le, Nat.le_succ_of_le k3.lo⟩ (.str _ _) fun _ => fresh _
end

/-! the floor of the tokens, raised -/
noncomputable def Fp.relo (F : Fp) (T : Nat) : Fp := { F with W := { F.W with lo := T } }
theorem OwnAll.relo {F : Fp} {T : Nat} {X : AS} {h : Heap} {m : Str → Option Value} {as : List Addr} {ow : List (Str × PV)} (o : OwnAll F X h m as ow) : OwnAll (F.relo T) X h m as ow := by
  induction o with
  | nil => exact .nil
  | cons a b c d e f _ ih => exact .cons a b c d e f ih
theorem OwnAll.unrelo {F : Fp} {T : Nat} {X : AS} {h : Heap} {m : Str → Option Value} {as : List Addr} {ow : List (Str × PV)} (o : OwnAll (F.relo T) X h m as ow) : OwnAll F X h m as ow := by
  induction o with
  | nil => exact .nil
  | cons a b c d e f _ ih => exact .cons a b c d e f ih
theorem SttA.relo {F : Fp} {T : Nat} {Z : AS} {ρ ow : List (Str × PV)} {as : List Addr} {h : Heap} (S : SttA F Z ρ ow as h) : SttA (F.relo T) Z ρ ow as h :=
  ⟨S.room, S.base, S.xalive, S.kind, S.names, S.globals, S.builtins, S.le, S.ynew, S.yis, S.cells, S.zal, let ⟨m, f, v, o⟩ := S.frame; ⟨m, f, v, o.relo⟩⟩
theorem SttA.unrelo {F : Fp} {T : Nat} {Z : AS} {ρ ow : List (Str × PV)} {as : List Addr} {h : Heap} (S : SttA (F.relo T) Z ρ ow as h) : SttA F Z ρ ow as h :=
  ⟨S.room, S.base, S.xalive, S.kind, S.names, S.globals, S.builtins, S.le, S.ynew, S.yis, S.cells, S.zal, let ⟨m, f, v, o⟩ := S.frame; ⟨m, f, v, OwnAll.unrelo o⟩⟩
theorem RAt.unrelo {F : Fp} {T : Nat} {Z : AS} {r : R} {f : Flow} {as : List Addr} {h : Heap} (x : RAt (F.relo T) Z r f as h) : RAt F Z r f as h := by
  cases r with
  | next => exact ⟨x.1, SttA.unrelo x.2⟩
  | cont => exact ⟨x.1, SttA.unrelo x.2⟩
  | brk => exact ⟨x.1, SttA.unrelo x.2⟩
  | ret => exact x
theorem Step.unrelo {F : Fp} {T : Nat} {as as' : List Addr} {h h' : Heap} (x : Step (F.relo T) as h as' h') : Step F as h as' h' := ⟨x.grow, x.kept⟩

theorem Ex.relo {F : Fp} {ρ ρ' ow : List (Str × PV)} {r : R} {rest : List Stmt} {elt : Expr} {gens : List Comprehension} {scope : Scope} {cp px pos : Pos} {x : Str} {l : List Str}
    (he : ∀ X h, Cx F.W F.A F.n X F.env h F.names ρ → EvNK F.W F.A X F.env h (.ListComp elt gens scope cp) (l.map .str)) (er : Erase x ρ ρ') (off : Off x ow) (hl : l ≠ [])
    (hr : ∀ T, F.W.lo ≤ T → 0 < T → Ex (F.relo T) rest ((x, .list (l.map (.strP fun t => 0 < t ∧ t < T))) :: ρ') ow r)
    (hx : F.names.lookup x = some .cell := by first | decide +kernel | (dsimp only; decide +kernel)) : Ex F (.Assign [.Name x px] (.ListComp elt gens scope cp) pos :: rest) ρ ow r := .mk fun Z s as Q E S lo q => by
  have kx : F.env.kindOf x ≠ some .local := by unfold Env.kindOf; rw [S.names, hx]; decide
  have o : ownB F.names x = true := by unfold ownB; rw [hx]; rfl
  refine wpAny_execs_cons (PySem.wpAny_Assign_Name (he _ s.heap S.full s _ E (.refl lo) fun a h' tk' vs nn k hd il rl tok => ?_) (swaps_cell kx))
  have S' := S.mono k.le
  have hX : ¬ F.X Z as a := fun z => by
    obtain ⟨b, hb, al⟩ := S.okX.alive a z
    exact absurd (hd b al) (Nat.not_lt.mpr hb)
  have hpos : 0 < tk' := by
    cases l with
    | nil => exact absurd rfl hl
    | cons y ys =>
      have rs := rl.strTok tok
      obtain ⟨_, _, rfl, a, _⟩ := RepAll.consI rs
      obtain ⟨t, rfl, pt⟩ := Rep.strPI a
      exact Nat.lt_trans pt.1 pt.2
  refine SttA.store (s := { s with heap := h', toks := tk' }) S' o er off (.list hX il (rl.strTok tok)) fun h₂ tk₂ ht₂ S₂ k₂ => ?_
  exact (hr tk' k.lo hpos).go Z { s with heap := h₂, toks := tk₂ } as Q E S₂.relo ht₂ fun f h₃ tk₃ as₃ lo₃ ra st => q f h₃ tk₃ as₃ (Nat.le_trans k.lo lo₃) ra.unrelo (((Step.of_le k.le).trans (.of_kept k₂)).trans st.unrelo)
end
section
open PySem PySem.Calls PyProof.Rows PySem.SeqAt
theorem call_core {W : Wd} {n : Nat} {d : DefRec} {args : List PV} (ps : List Str) {nms : List (Str × NameKind)} (hsc : ScOk d nms)
    (hb : ∀ pm code doc cvs, cvs.length = args.length → bindArgs (docDef d.name d.params d.body d.scope pm code doc) ⟨cvs, []⟩ = pure (ps.zip cvs))
    (hok : defOk nms ps = true) (hl : ps.length = args.length) {A : Around} {X : AS} {s : Shared} {a : Addr} {o : Obj} {pm code doc : Value} {cvs : List Value} {Q : Value → Shared → Prop} {E : Value → Shared → Prop}
    (O : OkS W A (n + 1) X s) (hoo : s.heap.get? a = some o) (hdd : o.data = .func (docDef d.name d.params d.body d.scope pm code doc)) (hcc : s.heap.CodeRec code d.name) (r : RepAll X s.heap cvs args)
    (k : ∀ env Y h₁ tk₁, env.frame = some env.locals → Y env.locals → (∃ ml, h₁.Ns env.locals ml) → ¬ Alive s.heap env.locals → SttA ⟨W, A.deeper env, n, X, env, Y, s.heap, nms⟩ (fun _ => False) (ps.zip args) [] [] h₁ → s.toks ≤ tk₁ → Le s.heap h₁ →
      wpAny W.M (A.deeper env) (execs d.body env) (fun f s' => Q (match f with | .ret v => v | _ => .none) s') (fun e s' => wpAny W.M (A.deeper env) (leaving env e) (fun _ s'' => E e s'') (fun e' s'' => E e' s'') s') { s with heap := h₁, toks := tk₁ }) :
    wpAny W.M A (call (.ref a) cvs) Q E s := by
  obtain ⟨⟨hk, hgen, hco⟩, hnm⟩ := hsc
  subst hnm
  simp only [defOk, Bool.and_eq_true] at hok
  obtain ⟨⟨o1, o2⟩, o3⟩ := hok
  have allL : ∀ {x : Str} {k : NameKind}, (x, k) ∈ d.scope.names → d.scope.names.lookup x = some k ∧ k ≠ .free := fun {x k} hx => by
    have := List.all_eq_true.mp o1 _ hx
    simp only [Bool.and_eq_true, bne_iff_ne, beq_iff_eq] at this
    exact ⟨this.2, this.1⟩
  have notFree : ∀ x, d.scope.names.lookup x ≠ some .free := fun x e => (allL (mem_of_lookup e)).2 rfl
  have cellAt : ∀ x m, (x, NameKind.cell) ∈ d.scope.names → ∃ c, (cellsFrom m d.scope.names []).lookup x = some c ∧ m ≤ c := fun x m hx => cellsFrom_mine d.scope.names m [] hx
  have hps : ∀ x ∈ ps, d.scope.names.lookup x = some .local ∨ d.scope.names.lookup x = some .cell := fun x hx => by
    have := List.all_eq_true.mp o2 _ hx
    simpa using this
  refine wpAny_call (call_cellsT (fd := docDef d.name d.params d.body d.scope pm code doc) O.room.lim hoo hdd O.base.lim hcc rfl (hb pm code doc cvs r.length) rfl (fun x hx => ?_) (fun s₁ ht hi => ?_) hco hgen hk)
  · have hx' : x.1 ∈ ps := (List.of_mem_zip (show (x.1, x.2) ∈ ps.zip cvs from hx)).1
    rcases hps x.1 hx' with e | e
    · exact .inl e
    · obtain ⟨c, hc, _⟩ := cellAt x.1 (s.heap.objs.size + 1) (mem_of_lookup e)
      exact .inr ⟨e, by show ((cellsFrom _ d.scope.names []).lookup x.1).isSome = true; rw [hc]; rfl⟩
  · generalize henv : callEnvC (docDef d.name d.params d.body d.scope pm code doc) s.heap.objs.size a = env at hi ⊢
    have eK : ∀ x, env.kindOf x = d.scope.names.lookup x := fun x => by rw [← henv]; rfl
    have eC : env.cells = cellsFrom (s.heap.objs.size + 1) d.scope.names [] := by rw [← henv]; rfl
    have eL : env.locals = s.heap.objs.size := by rw [← henv]; rfl
    obtain ⟨h₁, tk, rfl⟩ := hi.toInCall.same
    have Lge : ∀ x c, env.cells.lookup x = some c → env.locals < c := fun x c hc => hi.above x c (mem_of_lookup hc)
    have dead : ∀ b, env.locals ≤ b → ¬ Alive s.heap b := fun b hb ⟨o, e⟩ => by
      have := Heap.lt_size e
      rw [eL] at hb
      exact absurd this (Nat.not_lt.mpr hb)
    let Y : AS := fun b => b = env.locals ∨ ∃ x, env.kindOf x = some .cell ∧ env.cells.lookup x = some b
    have S : SttA ⟨W, A.deeper env, n, X, env, Y, s.heap, d.scope.names⟩ (fun _ => False) (ps.zip args) [] [] h₁ := by
      refine ⟨O.room.deeper env, O.base, O.ok.alive, ?_, ?_, ?_, ?_, hi.toInCall.keep, ?_, fun b y => y, fun x q => ?_, fun a z => z.elim, ?_⟩
      · show env.scope.kind = _
        rw [← henv]; exact hk
      · show env.scope.names = _
        rw [← henv]; rfl
      · show env.globals = _
        rw [← henv]; rfl
      · show env.builtins = _
        rw [← henv]; rfl
      · intro b y
        rcases y with y | ⟨x, _, hc⟩
        · exact dead b (Nat.le_of_eq y.symm)
        · exact dead b (Nat.le_of_lt (Lge x b hc))
      · have q' : env.kindOf x = some .cell := q.elim id fun e => absurd ((eK x).symm.trans e) (notFree x)
        obtain ⟨c, hc, _⟩ := cellAt x (s.heap.objs.size + 1) (mem_of_lookup ((eK x).symm.trans q'))
        rw [← eC] at hc
        exact ⟨c, hc, .inr ⟨x, q', hc⟩, q'⟩
      · refine ⟨fun y => if env.kindOf y = some .local then bindL env.kindOf (ps.zip cvs) (fun _ => none) y else bindC env.kindOf (ps.zip cvs) (fun _ => none) y, ⟨⟨_, hi.toInCall.ns, fun x hx => (if_pos hx).symm⟩, .inl rfl, fun x c hc _ => Nat.ne_of_gt (Lge x c hc), fun x c hx hc _ => ?_, fun x y c hx hy _ => ?_⟩, fun x u l => ?_, .nil⟩
        · have hn : ¬ env.kindOf x = some .local := by
            intro q
            rw [show env.kindOf x = some .cell from hx] at q
            cases q
          rw [if_neg hn]
          exact hi.cell x c hc
        · exact name_of_addr hi.apart (mem_of_lookup hx) (mem_of_lookup hy)
        · have rr : RepAll (Fp.X ⟨W, A.deeper env, n, X, env, Y, s.heap, d.scope.names⟩ (fun _ => False) []) h₁ cvs args := (r.set fun b q al => by
            rcases q with q | (q | ⟨x, _, hc⟩) | q | q
            · exact q
            · exact absurd al (dead b (Nat.le_of_eq q.symm))
            · exact absurd al (dead b (Nat.le_of_lt (Lge x b hc)))
            · cases q
            · exact q.elim).mono hi.toInCall.keep
          obtain ⟨cv, e, rv, hm⟩ := zip_look (m := fun y => if env.kindOf y = some .local then none else none) l rr (of_decide_eq_true o3)
          refine ⟨?_, cv, (comb_bind ps cvs _ _ x).trans e, rv⟩
          rcases hps x hm with q | q
          · exact .inl ((eK x).trans q)
          · obtain ⟨c, hc, _⟩ := cellAt x (s.heap.objs.size + 1) (mem_of_lookup q)
            rw [← eC] at hc
            exact .inr ⟨(eK x).trans q, c, hc, .inr ⟨x, (eK x).trans q, hc⟩⟩
    exact k env Y h₁ tk (by rw [← henv]; rfl) (.inl rfl) ⟨_, hi.toInCall.ns⟩ (dead _ (Nat.le_refl _)) S ht hi.toInCall.keep
end
section
open PySem PySem.Calls PyProof.Rows PySem.SeqAt
/-! a heap without one object -/
noncomputable def Heap1 (h : Heap) (L : Addr) : Heap := h.update L fun o => { o with data := .freed }
theorem Heap1.gone (h : Heap) (L : Addr) : (Heap1 h L).get? L = none := by
  cases e : (Heap1 h L).get? L with
  | none => rfl
  | some o =>
    exfalso
    obtain ⟨h1, h2⟩ := (Heap.get?_eq_some _ _ _).mp e
    unfold Heap1 at h1
    rw [Heap.objs_update_self] at h1
    cases q : h.objs[L]? with
    | none => rw [q] at h1; cases h1
    | some o' =>
      rw [q] at h1
      cases h1
      cases h2
theorem Heap1.other (h : Heap) {L b : Addr} (hb : b ≠ L) : (Heap1 h L).get? b = h.get? b := Heap.get?_update_other _ _ (Ne.symm hb)
theorem Heap1.some {h : Heap} {L b : Addr} {o : Obj} (e : (Heap1 h L).get? b = some o) : b ≠ L ∧ h.get? b = some o := by
  have hb : b ≠ L := fun q => by rw [q, Heap1.gone] at e; cases e
  exact ⟨hb, (Heap1.other h hb).symm.trans e⟩

section
variable {M : Model} {A : Around} {E : Value → Shared → Prop} {s : Shared}
/-- the first note of an exception that was made here -/
theorem note_made {base h : Heap} {env : Env} {outer : List Env} {L e : Addr} {cls : Value} {args : List Value} {Q : Unit → Shared → Prop}
    (hfr : A.frames = some (env :: outer)) (hf : env.frame = some L) (hkb : base.StaysIn h) (hl : h.FunFrames base (env :: outer)) (hx : Heap.MadeExcOf h s.heap e cls args)
    (hQ : ∀ h' t, Heap.HeldW base (env :: outer) e cls (.ref t) L h' → h'.TupAt t args → base.get? t = none → s.heap.UpToSlots h' → Q () { s with heap := h' }) : wpAny M A (noteFrame (.ref e) env) Q E s := by
  obtain ⟨t, he, htn, ht⟩ := hx.there
  have fresh : ∀ b, h.get? b = none → base.get? b = none := fun b hb => by
    cases hq : base.get? b with
    | none => rfl
    | some o' => have := hkb b o' hq; rw [hb] at this; cases this
  unfold noteFrame
  simp only [hf]
  refine wpAny_bind (wpAny_field he rfl (x := Value.none) rfl ?_)
  rw [if_neg (show ¬ ((Value.none != Value.none) = true) from by decide)]
  refine wpAny_entryW (a0 := .ref t) hfr (hl.of_keeps fun b o hb _ => ⟨o, hx.keeps b o hb, rfl⟩) hf he (fun b o hb => hx.keeps b o (hkb b o hb)) (fresh e hx.new) rfl (by simp) rfl fun h' hL => ?_
  obtain ⟨k1, k2, k3, k4⟩ := hL
  exact hQ h' t ⟨k1, fresh e hx.new, k2, k3⟩ (Heap.TupAt.of_slots ⟨_, _, ht, rfl, rfl⟩ k4) (fresh t htn) k4

theorem setFlight_again {base : Heap} {l : List Env} {e L : Addr} {cls a0 : Value} {Q : Unit → Shared → Prop} (R : Heap.HeldW base l e cls a0 L s.heap)
    (h : ∀ h', Heap.HeldW base l e cls a0 L h' → s.heap.UpToSlots h' → Q () { s with heap := h' }) : wpAny M A (setFlight (.ref e) (some L)) Q E s := by
  obtain ⟨hkb, hen, hl, oe, vs, T, oT, ts, he, hcls, hd, h1, hnT, hTe, hT, hdT, h3⟩ := R
  have hsz3 : 3 < ts.size := (Array.getElem?_eq_some_iff.mp h3).1
  have other : ∀ b, b ≠ T → (s.heap.update T (Obj.mapFields (·.setIfInBounds 3 ((some L).elim Value.none fun f => rawInt f)))).get? b = s.heap.get? b :=
    fun b hb => Heap.get?_update_other _ _ (Ne.symm hb)
  have noRecord : ∀ b o, s.heap.get? b = some o → (∀ vs, o.data ≠ .fields vs) → b ≠ T := fun b o hb hnf q => by
    rw [q, hT] at hb; injection hb with hb; subst hb; exact hnf ts hdT
  unfold setFlight
  refine wpAny_bind (wpAny_field he hd h1 ?_)
  rw [if_pos (show (Value.ref T != Value.none) = true from by simp)]
  refine wpAny_setField hT hdT hsz3 (h _ ⟨fun b o hbo => (other b fun q => by rw [q, hnT] at hbo; cases hbo).trans (hkb b o hbo), hen,
    hl.of_keeps fun b o hb hnf => ⟨o, (other b (noRecord b o hb hnf)).trans hb, rfl⟩, ?_⟩ fun b o hb hnf => ⟨o.slots, (other b (noRecord b o hb hnf)).trans hb⟩)
  exact ⟨oe, vs, T, _, _, (other e (Ne.symm hTe)).trans he, hcls, hd, h1, hnT, hTe, Heap.get?_update_self _ hT (Obj.isFreed_of_fields (Obj.data_mapFields hdT _)), Obj.data_mapFields hdT _, by simp [hsz3]⟩

theorem cameBack {base : Heap} {l : List Env} {env : Env} {e L : Addr} {cls a0 : Value} (hf : env.frame = some L) (R : Heap.HeldW base l e cls a0 L s.heap)
    (h : ∀ h', Heap.HeldW base l e cls a0 L h' → s.heap.UpToSlots h' → E (.ref e) { s with heap := h' }) : cameBackBy M A env E (.ref e) s := by
  obtain ⟨_, _, _, oe, vs, T, oT, ts, he, hcls, hd, h1, _⟩ := id R
  unfold cameBackBy
  refine wpAny_bind (wpAny_field he hd h1 ?_)
  rw [if_neg (show ¬ ((Value.ref T == Value.none) = true) from by simp), hf]
  first
    | exact setFlight_again R h
    | exact wpAny_bind (wpAny_pure (setFlight_again R h))
end
end
section
open PySem PySem.Calls PyProof.Rows PySem.SeqAt
noncomputable def noSeq : Str := "sequence.index(x): x not in sequence"
theorem frames_of {A : Around} {env : Env} {outer : List Env} (h : A.frames = some outer) : (A.deeper env).frames = some (env :: outer) := by
  show A.frames.map (env :: ·) = _
  rw [h]; rfl
theorem ns_obj {h : Heap} {a : Addr} {m : Str → Option Value} (n : h.Ns a m) : ∃ o, h.get? a = some o ∧ ∀ vs, o.data ≠ .fields vs := by
  obtain ⟨o, es, ep, ho, hd, _⟩ := n
  exact ⟨o, ho, fun vs q => by rw [hd] at q; cases q⟩
theorem none_of_dead {h : Heap} {a : Addr} (d : ¬ Alive h a) : h.get? a = none := by
  cases e : h.get? a with
  | none => rfl
  | some o => exact absurd ⟨o, e⟩ d

section
variable {W : Wd} {n : Nat}
/-- indexOf, where it raises -/
theorem raise_indexOf {P : Nat → Prop} (hP : ∀ t, P t → 0 < t ∧ t < W.lo) {nms : List Str} {x : Str} (hn : ∀ i : Nat, nms[i]? ≠ some x)
    {A : Around} {X : AS} {s : Shared} {a : Addr} {o : Obj} {pm code doc : Value} {cvs : List Value} {Q : Value → Shared → Prop} {E : Value → Shared → Prop}
    (O : OkS W A (n + 1) X s) (hoo : s.heap.get? a = some o) (hdd : o.data = .func (docDef (fn 10).name (fn 10).params (fn 10).body (fn 10).scope pm code doc)) (hcc : s.heap.CodeRec code (fn 10).name) (r : RepAll X s.heap cvs [.list (nms.map (.strP P)), pvS W.lo x])
    {base : Heap} {outer : List Env} (K : Below A base outer s.heap) (hbase : ∀ b, ¬ Alive s.heap b → base.get? b = none)
    (q : ∀ h' tk' e t u, base.FlyingW outer e (.type "ValueError") (.ref t) h' → h'.TupAt t [.str noSeq u] → s.heap.UpToSlots h' → W.lo ≤ tk' → E (.ref e) { s with heap := h', toks := tk' }) :
    wpAny W.M A (call (.ref a) cvs) Q E s := by
  refine call_core ["a", "b"] sc10 (by intro pm code doc cvs h; obtain ⟨a, b, rfl⟩ := len2 h; rfl) (by decide +kernel) rfl O hoo hdd hcc r fun env Y h₁ tk₁ hf hY hns hnew S ht le => ?_
  show wpAny _ _ (execs (fn 10).body env) _ _ _
  have hrows : ((nms.map (PV.strP P)).zipIdx.map fun (v, i) => ([.int (i : Nat), v] : List PV)) = nms.zipIdx.map fun p => [N p.2, .strP P p.1] := by
    rw [List.zipIdx_map, List.map_map]; rfl
  refine wpAny_execs_cons (for_sem (F := ⟨W, A.deeper env, n, X, env, Y, s.heap, _⟩) (xs := ["i", "j"]) (rows := nms.zipIdx.map fun p => [N p.2, .strP P p.1]) (fun i => ([("a", .list (nms.map (.strP P))), ("b", pvS W.lo x)], [])) (nms.zipIdx.map fun p => ([N p.2, .strP P p.1] : List PV)).length
      (fun X h C => by
        refine EvIter.rows ?_ hrows
        exact EvIter.enum C (by walk_at "m.ev")) rfl (ownAll (by dsimp only; decide +kernel)) (fun i r hi hrow => ?_) S (Nat.le_trans O.lo ht) (.inl ⟨rfl, fun h₂ tk₂ as₁ lo₂ S₂ st => ?_⟩))
  · obtain ⟨p, hp, rfl⟩ := get_map hrow
    rw [List.getElem?_zipIdx] at hp
    cases hy : nms[i]? with
    | none => rw [hy] at hp; cases hp
    | some y =>
      rw [hy] at hp
      simp only [Option.map_some, Option.some.injEq, Nat.zero_add] at hp
      subst hp
      have hne : (y == x) = false := beq_false_of_ne fun e => hn i (e ▸ hy)
      refine ⟨fun x hx => Off.nil, _, by walk_at "m.bind", .inl ?_⟩
      refine Ex.ite (c := y == x) (fun X h C => EvB.isOrEq C hP (by walk_at "m.ev") (by walk_at "m.ev") (by walk_at "m.ev") (by walk_at "m.ev")) (fun hc => ?_) (fun hc => ⟨_, Ex.nil, Then.next (Ex.done (by walk_at "m.sub"))⟩)
      rw [hne] at hc; cases hc
  · have C := S₂.full
    obtain ⟨hg, hb⟩ := C.ok.base.bi ("ValueError", .type "ValueError") (used_t (by decide +kernel))
    refine wpAny_execs_cons (Raise_madeB PySem.F.excCall_ValueError PySem.F.excRaise_ValueError S₂.room.handled (Name_function_global C.kind (by unfold Env.kindOf; rw [C.names]; rfl) (loadGlobal_builtin (C.globals ▸ C.ok.base.g) hg (C.builtins ▸ C.ok.base.b) hb ⟨rfl, ?_⟩) (by decide +kernel)))
    refine (EvArgs.cons (Ev.str (x := noSeq)) EvArgs.nil : EvArgs W (A.deeper env) X env h₂ _ _) _ _ _ _ ⟨Le.refl _, lo₂⟩ fun cvs h₂' tk₂' k₂ rr => ⟨by rw [rr.length, sizeLine_eq]; simp, fun h₃ e hm => ?_⟩
    obtain ⟨u, rfl⟩ : ∃ u, cvs = [.str noSeq u] := by
      obtain ⟨_, _, rfl, a, b⟩ := RepAll.consI rr
      cases b; cases a with
        | str _ u => exact ⟨u, rfl⟩
    replace S₂ := S₂.mono k₂.le
    have le₂ : Le s.heap h₂' := S₂.le
    obtain ⟨m, f, _⟩ := S₂.frame
    obtain ⟨ml, hml, _⟩ := f.ns
    obtain ⟨oL, hoL, hnf⟩ := ns_obj hml
    have hfr := frames_of (env := env) K.stack
    have hkb : base.StaysIn h₂' := fun b o e => le₂ b o (K.stays b o e)
    have hl : h₂'.FunFrames base (env :: outer) := ⟨by rw [S₂.kind]; decide, ⟨env.locals, oL, hf, hbase _ hnew, hoL, hnf⟩, K.frames.of_keeps fun b o e _ => ⟨o, le₂ b o e, rfl⟩⟩
    show wpAny _ _ (noteFrame _ _) _ _ _
    refine note_made hfr hf hkb hl hm.of fun h₄ t hh₄ ht₄ hbt u₄ => ?_
    refine cameBack hf hh₄ fun h₅ hh₅ u₅ => ?_
    unfold leaving
    refine wpAny_bind (wpAny_noteFrame_againW hf hh₅.2.2.2 ?_)
    refine wpAny_landsW hh₅ fun h₆ hfl u₆ => ?_
    obtain ⟨k1, k2, ⟨_, _, k3⟩, k4⟩ := hfl
    exact q h₆ _ e t _ ⟨k1, k2, k3, k4⟩ ((ht₄.of_slots u₅).of_slots u₆) ((((Heap.UpToSlots.of_keeps le₂).trans (Heap.UpToSlots.of_keeps hm.keeps)).trans (u₄.trans u₅)).trans u₆) k₂.lo

end
end
section
open PySem PySem.Calls PyProof.Rows PySem.SeqAt
theorem SttA.slots {F : Fp} {Z : AS} {ρ ow : List (Str × PV)} {as : List Addr} {h h' : Heap} (S : SttA F Z ρ ow as h) (hY : F.Y F.env.locals) (k : ∀ b o, b ≠ F.env.locals → h.get? b = some o → h'.get? b = some o)
    (hns : ∀ ml, h.Ns F.env.locals ml → h'.Ns F.env.locals ml) : SttA F Z ρ ow as h' := by
  obtain ⟨m, f, vs, oa⟩ := S.frame
  have ny : ∀ b, ¬ F.Y b → b ≠ F.env.locals := fun b n e => n (e ▸ hY)
  have kx : ∀ a o, ¬ F.X Z as a → h.get? a = some o → h'.get? a = some o := fun a o n e => k a o (ny a fun y => n (.inr (.inl y))) e
  refine ⟨S.room, S.base, S.xalive, S.kind, S.names, S.globals, S.builtins, fun b o e => k b o (fun q => S.ynew b (q ▸ hY) ⟨o, e⟩) (S.le b o e), S.ynew, S.yis, S.cells, fun a z => ?_, m, ⟨?_, f.yl, f.nl, fun x c hk hc hy => ?_, f.apart⟩, fun x v l => ?_, ?_⟩
  · obtain ⟨⟨o, e⟩, r⟩ := S.zal a z
    exact ⟨⟨o, k a o (ny a r.1) e⟩, r⟩
  · obtain ⟨ml, hml, e⟩ := f.ns
    exact ⟨ml, hns ml hml, e⟩
  · obtain ⟨o, ho, hd⟩ := f.cell x c hk hc hy
    exact ⟨o, k c o (f.nl x c hc hy) ho, hd⟩
  · obtain ⟨ho, cv, e, r⟩ := vs x v l
    exact ⟨ho, cv, e, r.keep kx⟩
  · clear vs
    have gen : ∀ {as' : List Addr} {ow' : List (Str × PV)}, OwnAll F (F.X Z as) h m as' ow' → OwnAll F (F.X Z as) h' m as' ow' := by
      intro as' ow' oa
      induction oa with
      | nil => exact .nil
      | cons a b c d e f _ ih => exact .cons a b (c.keep kx fun o q => k _ o (ny _ e) q) d e f ih
    exact gen oa

section
variable {W : Wd} {A : Around} {n : Nat} {X : AS} {env : Env} {h : Heap} {names : List (Str × NameKind)} {ρ : List (Str × PV)}
theorem callE (C : Cx W A n X env h names ρ) {f : Str} {p pos : Pos} {e : Expr} {r : List Expr} {vs : List PV} (d : DefRec) (ha : EvArgs W A X env h (e :: r) vs) (hd : d ∈ W.ds) (hf : d.name = f)
    {s : Shared} {Q : Value → Shared → Prop} {E : Value → Shared → Prop} (k : LeW W.lo h s)
    (q : ∀ a o pm code doc cvs h₁ tk₁, LeW W.lo s.heap { s with heap := h₁, toks := tk₁ } → h₁.get? a = some o → o.data = .func (docDef d.name d.params d.body d.scope pm code doc) → h₁.CodeRec code d.name → RepAll X h₁ cvs vs → OkS W A n X { s with heap := h₁, toks := tk₁ } →
      wpAny W.M A (call (.ref a) cvs) Q E { s with heap := h₁, toks := tk₁ })
    (hk : names.lookup f = some .globalImplicit := by first | decide +kernel | (dsimp only; decide +kernel))
    (hs : starEach (e :: r) env = (false, eval e env) :: starEach r env := by rfl) (hdb : (f == ("__debug__" : Str)) = false := by first | decide +kernel | (dsimp only; decide +kernel)) :
    wpAny W.M A (eval (.Call (.Name f p) (e :: r) [] pos) env) Q E s := by
  have O := C.ok.at k
  obtain ⟨a, o, pm, code, doc, hg, hoo, hdd, hcc⟩ := O.base.fn d hd
  refine wpAny_Call_NameR (Name_function_global C.kind (by unfold Env.kindOf; rw [C.names]; exact hk) (loadGlobal_global (C.globals ▸ O.base.g) (hf ▸ hg) ?_) hdb)
  have ha' := ha s
  rw [hs] at ha' ⊢
  refine callWith_function (o := o) (fd := docDef d.name d.params d.body d.scope pm code doc) (evalArgs_plain (ha' _ E pos k fun cvs h₁ tk₁ k₁ rr => ?_))
  exact ⟨⟨k₁.le _ _ hoo, hdd⟩, q a o pm code doc cvs h₁ tk₁ k₁ (k₁.le _ _ hoo) hdd (hcc.keeps k₁.le) rr (O.mono k₁)⟩
end

theorem data_ne {h : Heap} {a b : Addr} {m : Str → Option Value} {o : Obj} (n : h.Ns a m) (ho : h.get? b = some o) (hd : ∀ es ep, o.data ≠ .dict es ep) : b ≠ a := fun q => by
  obtain ⟨o', es, ep, ho', hd', _⟩ := n
  rw [q, ho'] at ho
  cases ho
  exact hd es ep hd'

/-- the call of _law_stranger, from a frame that stands alone -/
theorem ev_stranger {F : Fp} {Z : AS} {ρ ow : List (Str × PV)} {as : List Addr} {k : Nat} (hW : F.W.ds = fns) {P : Nat → Prop} (hP : ∀ t, P t → 0 < t ∧ t < F.W.lo) {nms : List Str} (hn : ∀ i : Nat, nms[i]? ≠ some "Q")
    (hfr : F.A.frames = some [F.env]) (hf : F.env.frame = some F.env.locals) (hY : F.Y F.env.locals) (hk : F.n = k + 2) {s : Shared} {Q : Value → Shared → Prop} {E : Value → Shared → Prop} (S : SttA F Z ρ ow as s.heap) (lo : F.W.lo ≤ s.toks)
    {x : Str} {p px pos : Pos} (hx : Look ρ x (.list (nms.map (.strP P)))) (hl : F.names.lookup ("_law_stranger" : Str) = some .globalImplicit)
    (hs : starEach [.Name x px] F.env = [(false, eval (.Name x px) F.env)]) (hd1 : (x == ("__debug__" : Str)) = false) (hd2 : (x == ("__classdict__" : Str)) = false)
    (q : ∀ h' tk' u, F.W.lo ≤ tk' → SttA F Z ρ ow as h' → Step F as s.heap as h' → Q (.str noSeq u) { s with heap := h', toks := tk' }) :
    wpAny F.W.M F.A (eval (.Call (.Name "_law_stranger" p) [.Name x px] [] pos) F.env) Q E s := by
  have C := S.full
  refine callE C (fn 22) (EvArgs.cons (Ev.name C hx hd1 hd2) EvArgs.nil hs) (mem_of hW (by decide)) id22 (.refl lo) (fun a o pm code doc cvs g tk₁ k₁ hoo hdd hcc rr O => ?_) hl hs
  have S' := S.mono k₁.le
  rw [hk] at O
  obtain ⟨m1, f1, _⟩ := S'.frame
  obtain ⟨ml1, hml1, _⟩ := f1.ns
  obtain ⟨oL1, hoL1, hnf1⟩ := ns_obj hml1
  have K₁ : Below F.A (Heap1 g F.env.locals) [F.env] g := ⟨hfr, fun b o e => (Heap1.some e).2, ⟨by rw [S'.kind]; decide, ⟨F.env.locals, oL1, hf, Heap1.gone _ _, hoL1, hnf1⟩, trivial⟩⟩
  have dead0 : ∀ b, ¬ Alive g b → (Heap1 g F.env.locals).get? b = none := fun b d => by
    cases e : (Heap1 g F.env.locals).get? b with
    | none => rfl
    | some o => exact absurd ⟨o, (Heap1.some e).2⟩ d
  have base0 : Base F.W.ds F.W.mg F.W.mb (Heap1 g F.env.locals) := S'.base.mono fun b o e => (Heap1.other g fun (q : b = F.env.locals) => S'.ynew b (q ▸ hY) ⟨o, e⟩).trans (S'.le b o e)
  generalize hbase : Heap1 g F.env.locals = base at K₁ dead0 base0
  refine call_core ["names"] sc22 (by intro pm code doc cvs h; obtain ⟨a, rfl⟩ := len1 h; rfl) (by decide +kernel) rfl O hoo hdd hcc rr fun env2 Y2 h₁ tk₂ hf2 hY2 hns2 hnew2 S2 ht le => ?_
  show wpAny _ _ (execs (fn 22).body env2) _ _ _
  refine wpAny_execs_cons (wpAny_Try_except ?_)
  have C2 := S2.full
  have lo₂ : F.W.lo ≤ tk₂ := Nat.le_trans k₁.lo ht
  refine wpAny_execs_cons (wpAny_Return_some ?_)
  refine callE C2 (fn 10) (EvArgs.cons (Ev.name C2 Look.head) (EvArgs.cons (Ev.strP (P := fun t => F.W.lo ≤ t) fun _ h => h) EvArgs.nil)) (mem_of hW (by decide)) id10 ⟨Le.refl _, lo₂⟩ (fun a3 o3 pm3 code3 doc3 cvs3 h₃ tk₃ k₃ hoo3 hdd3 hcc3 rr3 O3 => ?_)
  have S3 := S2.mono k₃.le
  obtain ⟨m2, f2, _⟩ := S3.frame
  obtain ⟨ml2, hml2, _⟩ := f2.ns
  obtain ⟨oL2, hoL2, hnf2⟩ := ns_obj hml2
  have le3 : Le g h₃ := le.trans k₃.le
  have hfr2 : (F.A.deeper env2).frames = some [env2, F.env] := frames_of K₁.stack
  have K₂ : Below (F.A.deeper env2) base [env2, F.env] h₃ := ⟨hfr2, fun b o e => le3 b o (K₁.stays b o e), ⟨by rw [S3.kind]; decide, ⟨env2.locals, oL2, hf2, dead0 _ hnew2, hoL2, hnf2⟩, K₁.frames.of_keeps fun b o e _ => ⟨o, le3 b o e, rfl⟩⟩⟩
  refine raise_indexOf hP hn O3 hoo3 hdd3 hcc3 rr3 K₂ (fun b d => dead0 b fun al => d (al.mono le3)) fun h₄ tk₄ e t u hfl₄ htup₄ u₄ lo₄ => ?_
  refine wpAny_looks_onW hfr2 hf2 hfl₄ fun h₅ hh₅ u₅ => ?_
  refine wpAny_landsW hh₅ fun h₆ hfl₆ u₆ => ?_
  have B₆ : Base F.W.ds F.W.mg F.W.mb h₆ := base0.mono hfl₆.1
  obtain ⟨hg6, hb6⟩ := B₆.bi ("ValueError", .type "ValueError") (used_t (by decide +kernel))
  refine wpAny_handleBy_builtin_as (X := "ValueError") (T := "ValueError") (b := true) (isSubtype_of_subB (by decide +kernel)) (isSubtype_of_subB (by decide +kernel)) (isSubtype_of_subB (by decide +kernel)) ?_
  refine Name_function_global S3.kind (by unfold Env.kindOf; rw [S3.names]; rfl) (loadGlobal_builtin (S3.globals ▸ B₆.g) hg6 (S3.builtins ▸ B₆.b) hb6 ⟨rfl, hfl₆.there, ?_⟩) (by decide +kernel)
  rw [if_pos rfl]
  refine lands_againW hfl₆ fun h₇ hfl₇ u₇ => ?_
  have u37 : h₃.UpToSlots h₇ := ((u₄.trans u₅).trans u₆).trans u₇
  have hn7 := u37.ns hml2
  have hkE : env2.kindOf "error" = some .local := by unfold Env.kindOf; rw [S3.names]; rfl
  have hcl : (env2.scope.kind == .class || (env2.scope.kind == .module && env2.locals != env2.globals)) = false := by rw [S3.kind]; rfl
  obtain ⟨oe, ws, hoe, hoec, hoed, hoe0⟩ := hfl₇.first
  obtain ⟨ot, nt, hot, hotc, hotd⟩ := ((htup₄.of_slots u₅).of_slots u₆).of_slots u₇
  have ne2 : e ≠ env2.locals := data_ne hn7 hoe fun es ep q => by rw [hoed] at q; cases q
  have nt2 : t ≠ env2.locals := data_ne hn7 hot fun es ep q => by rw [hotd] at q; cases q
  refine wpAny_storeName_local hkE hn7 (fun h₈ hn8 sb₈ => ?_) hcl
  have l2 : base.get? env2.locals = none := dead0 _ hnew2
  have stays8 : base.StaysIn h₈ := fun b o q => (sb₈.2 b fun z => by rw [z, l2] at q; cases q).trans (hfl₇.1 b o q)
  have B₈ : Base F.W.ds F.W.mg F.W.mb h₈ := base0.mono stays8
  obtain ⟨hg8, hb8⟩ := B₈.bi ("str", .type "str") (used_t (by decide +kernel))
  refine wpAny_execs_cons (wpAny_Return_some (wpAny_Call_NameR (Name_function_global S3.kind (by unfold Env.kindOf; rw [S3.names]; rfl) (loadGlobal_builtin (S3.globals ▸ B₈.g) hg8 (S3.builtins ▸ B₈.b) hb8 ?_) (by decide +kernel))))
  refine PySem.callWith_type rfl (evalArgs_plain (spliced_cons (wpAny_Name (wpAny_loadName_local S3.kind hkE hn8 (if_pos rfl) (spliced_nil ?_)) (by decide +kernel))))
  have hroom := S2.room.units
  refine PySem.P.str_of_exc_one PySem.F.excStr_ValueError (t0 := t) (m := noSeq) (tk := u) (by show (F.A.deeper env2).units + 2 < 9900; have : (F.A.deeper env2).units + 10 * (k + 1) < 9000 := hroom; omega) ⟨oe, ws, (sb₈.2 e ne2).trans hoe, hoec, hoed, hoe0⟩ ⟨ot, nt, (sb₈.2 t nt2).trans hot, hotc, hotd⟩ ?_
  refine wpAny_nameGoes hkE hn8 hcl fun h₉ m9 hn9 sb₉ => ?_
  have keep9 : ∀ b o, b ≠ F.env.locals → g.get? b = some o → h₉.get? b = some o := fun b o hb e => by
    have hb2 : b ≠ env2.locals := fun z => hnew2 ⟨o, z ▸ e⟩
    have e0 : base.get? b = some o := by rw [← hbase]; exact (Heap1.other g hb).trans e
    exact (sb₉.2 b hb2).trans (stays8 b o e0)
  have hL12 : F.env.locals ≠ env2.locals := fun z => hnew2 ⟨oL1, z ▸ hoL1⟩
  refine q h₉ _ u ?_ (S'.slots hY keep9 fun ml hml => ?_) ⟨fun a z => .inl z, fun b o n e => keep9 b o (fun z => n (.inl (z ▸ hY))) (k₁.le b o e)⟩
  · exact Nat.le_succ_of_le (Nat.le_succ_of_le lo₄)
  · have n3 : h₃.Ns F.env.locals ml := hml.keeps le3
    exact (Ns.put (Ns.put (u37.ns n3) fun o e => (sb₈.2 _ hL12).trans e) fun o e => (sb₉.2 _ hL12).trans e)
end
local macro_rules | `(tactic| walk_at "m.op") => `(tactic| first | with_reducible exact Op2.ne_bool | with_reducible exact Op2.in_Ns)
section
open PySem PySem.Calls PyProof.Rows PySem.SeqAt
section
variable {W : Wd} {A : Around} {n : Nat} {X : AS} {env : Env} {h : Heap} {names : List (Str × NameKind)} {ρ ρ' : List (Str × PV)}
/-- a comprehension without tests over one name, item by item -/
theorem Ev.comp1 {α : Type} (l : List α) (g f : α → PV) (C : Cx W A n X env h names ρ) {elt target iter : Expr} {scope : Scope} {pos : Pos} {x : Str} (hit : EvIter W A X env h iter target [x] (l.map fun a => [g a])) (cap : Cap scope.names ρ ρ') (hok : compOk names scope.names [x] = true) (hl : l.length ≤ 100000)
    (body : ∀ a ∈ l, ∀ X' env' h', Cx W A n X' env' h' (relN names scope.names) ((x, g a) :: ρ') → Ev W A X' env' h' elt (f a)) (hkind : scope.kind = .function := by rfl) (hs : ∀ x, foldedSetIterable iter env x = pure x := by intro _; rfl) :
    Ev W A X env h (.ListComp elt [⟨target, iter, [], 0⟩] scope pos) (.list (l.map f)) := by
  have hr : (l.map fun a => ([g a] : List PV)) = (l.map g).map fun v => [v] := by rw [List.map_map]; rfl
  rw [hr] at hit
  refine (Ev.compB C ((l.map f).map some) hit cap hok (CompB.map (by simp) fun i v w hv hw X' env' h' C' => ?_) (by rw [fm_some]; simpa using hl) hkind hs).cast (by rw [fm_some])
  obtain ⟨a, ha, rfl, rfl⟩ := get_map2 hv hw
  exact body a (List.mem_of_getElem? ha) X' env' h' C'
theorem Ev.compR {M : Nat} (f : Nat → PV) (C : Cx W A n X env h names ρ) {elt e : Expr} {scope : Scope} {p pos pos2 px : Pos} {x : Str} (he : Ev W A X env h e (N M)) (cap : Cap scope.names ρ ρ') (hok : compOk names scope.names [x] = true)
    (body : ∀ i, i < M → ∀ X' env' h', Cx W A n X' env' h' (relN names scope.names) ((x, N i) :: ρ') → Ev W A X' env' h' elt (f i)) (hM : M ≤ 100000 := by decide) (hkind : scope.kind = .function := by rfl)
    (hk : names.lookup ("range" : Str) = some .globalImplicit := by first | decide +kernel | (dsimp only; decide +kernel)) (hs : starEach [e] env = [(false, eval e env)] := by rfl) (hs2 : ∀ x, foldedSetIterable (.Call (.Name "range" p) [e] [] pos2) env x = pure x := by intro _; rfl) :
    Ev W A X env h (.ListComp elt [⟨.Name x px, .Call (.Name "range" p) [e] [] pos2, [], 0⟩] scope pos) (.list ((List.range M).map f)) := by
  have := EvIter.rangeN C (x := x) (px := px) (p := p) (pos := pos2) he (by omega) hk hs
  rw [List.map_map] at this
  exact Ev.comp1 (List.range M) N f C this cap hok (by simpa using hM) (fun i hi => body i (List.mem_range.mp hi)) hkind hs2
/-- with a test -/
theorem Ev.compT {α : Type} (l : List α) (g f : α → PV) (t : α → Bool) (C : Cx W A n X env h names ρ) {elt target iter c : Expr} {scope : Scope} {pos : Pos} {x : Str} (hit : EvIter W A X env h iter target [x] (l.map fun a => [g a])) (cap : Cap scope.names ρ ρ') (hok : compOk names scope.names [x] = true) (hl : l.length ≤ 100000)
    (body : ∀ a ∈ l, ∀ X' env' h', Cx W A n X' env' h' (relN names scope.names) ((x, g a) :: ρ') → EvB W A env' h' c (t a) ∧ (t a = true → Ev W A X' env' h' elt (f a))) (hkind : scope.kind = .function := by rfl) (hs : ∀ x, foldedSetIterable iter env x = pure x := by intro _; rfl) :
    Ev W A X env h (.ListComp elt [⟨target, iter, [c], 0⟩] scope pos) (.list ((l.filter t).map f)) := by
  have hr : (l.map fun a => ([g a] : List PV)) = (l.map g).map fun v => [v] := by rw [List.map_map]; rfl
  rw [hr] at hit
  have hos : (l.map fun a => if t a then some (f a) else none).filterMap id = (l.filter t).map f := by
    clear hit hr body hl
    induction l with
    | nil => rfl
    | cons a l ih =>
      rw [List.map_cons, List.filterMap_cons, List.filter_cons]
      cases t a <;> simp [ih]
  refine (Ev.compB C (l.map fun a => if t a then some (f a) else none) hit cap hok (CompB.filter (by simp) fun i v o hv ho X' env' h' C' => ?_) (by rw [hos, List.length_map]; exact Nat.le_trans (List.length_filter_le ..) hl) hkind hs).cast (by rw [hos])
  obtain ⟨a, ha, rfl, rfl⟩ := get_map2 hv ho
  obtain ⟨b1, b2⟩ := body a (List.mem_of_getElem? ha) X' env' h' C'
  cases hta : t a with
  | true => rw [hta] at b1 b2; exact ⟨b1, fun w e => by cases e; exact b2 rfl⟩
  | false => rw [hta] at b1; exact ⟨b1, fun w e => by cases e⟩
theorem Ev.compRT {M : Nat} (f : Nat → PV) (t : Nat → Bool) (C : Cx W A n X env h names ρ) {elt e c : Expr} {scope : Scope} {p pos pos2 px : Pos} {x : Str} (he : Ev W A X env h e (N M)) (cap : Cap scope.names ρ ρ') (hok : compOk names scope.names [x] = true)
    (body : ∀ i, i < M → ∀ X' env' h', Cx W A n X' env' h' (relN names scope.names) ((x, N i) :: ρ') → EvB W A env' h' c (t i) ∧ (t i = true → Ev W A X' env' h' elt (f i))) (hM : M ≤ 100000 := by decide) (hkind : scope.kind = .function := by rfl)
    (hk : names.lookup ("range" : Str) = some .globalImplicit := by first | decide +kernel | (dsimp only; decide +kernel)) (hs : starEach [e] env = [(false, eval e env)] := by rfl) (hs2 : ∀ x, foldedSetIterable (.Call (.Name "range" p) [e] [] pos2) env x = pure x := by intro _; rfl) :
    Ev W A X env h (.ListComp elt [⟨.Name x px, .Call (.Name "range" p) [e] [] pos2, [c], 0⟩] scope pos) (.list (((List.range M).filter t).map f)) := by
  have := EvIter.rangeN C (x := x) (px := px) (p := p) (pos := pos2) he (by omega) hk hs
  rw [List.map_map] at this
  exact Ev.compT (List.range M) N f t C this cap hok (by simpa using hM) (fun i hi => body i (List.mem_range.mp hi)) hkind hs2
theorem Ev.castL {e : Expr} {l l' : List PV} (x : Ev W A X env h e (.list l)) (q : l = l') : Ev W A X env h e (.list l') := q ▸ x
theorem rmap {f : Nat → Nat} {M : Nat} : (List.range M).map (fun i => N (f i)) = ((List.range M).map f).map N := by rw [List.map_map]; rfl
theorem rget {f : Nat → Nat} {M i : Nat} (h : i < M) : ((List.range M).map f)[i]? = some (f i) := by rw [List.getElem?_map, List.getElem?_range h]; rfl
theorem rgetP {f : Nat → PV} {M i : Nat} (h : i < M) : ((List.range M).map f)[i]? = some (f i) := by rw [List.getElem?_map, List.getElem?_range h]; rfl
end

noncomputable abbrev hueS (R : List Nat) (l : Nat) : Nat := (R[3]! + 5 * l) % 16
noncomputable abbrev shareS (R : List Nat) (l : Nat) : Nat := (R[3]! / 16 + l) % 9
noncomputable abbrev levelS (R : List Nat) (l : Nat) : Nat := (R[3]! / 144 + 2 * l) % 9
noncomputable abbrev timeS (p : Nat) (rows : List Nat) (l : Nat) : Nat := ((List.range 6).map fun one => p >>> (one + 6) &&& (rows[one]! >>> l) &&& 1).sum
noncomputable abbrev greyS (R : List Nat) (l : Nat) : Nat × Nat × Nat := (0, 0, 8 * (levelS R l * (16 - shareS R l)))
noncomputable abbrev keptS (R : List Nat) (l : Nat) : Nat × Nat × Nat := (32 * (hueS R l * min 1 (shareS R l * levelS R l)), 64 * (shareS R l * min 1 (levelS R l)), 64 * (2 * levelS R l))
section
variable {F : Fp} {ρ ρ' ρ₂ ow : List (Str × PV)} {r : R} {rest : List Stmt}
theorem Ex.compF1 {α : Type} (l : List α) (g f : α → PV) {elt target iter : Expr} {scope : Scope} {pos px spos : Pos} {x y : Str} (hit : ∀ X h, Cx F.W F.A F.n X F.env h F.names ρ → EvIter F.W F.A X F.env h iter target [y] (l.map fun a => [g a]))
    (cap : Cap scope.names ρ ρ₂) (hok : compOk F.names scope.names [y] = true) (hl : l.length ≤ 100000)
    (body : ∀ a ∈ l, ∀ X' env' h', Cx F.W F.A F.n X' env' h' (relN F.names scope.names) ((y, g a) :: ρ₂) → Ev F.W F.A X' env' h' elt (f a)) (er : Erase x ρ ρ') (off : Off x ow) (hr : Ex F rest ((x, .list (l.map f)) :: ρ') ow r)
    (loc : F.names.lookup x = some .local := by first | decide +kernel | (dsimp only; decide +kernel)) (hkind : scope.kind = .function := by rfl) (hs : ∀ x, foldedSetIterable iter F.env x = pure x := by intro _; rfl) (line : (px.line == pos.line) = true := by rfl)
    (free : (scope.names.any fun p => p.1 == x && (p.2 == .local || p.2 == .cell)) = false := by decide +kernel) :
    Ex F (.Assign [.Name x px] (.ListComp elt [⟨target, iter, [], 0⟩] scope pos) spos :: rest) ρ ow r := by
  have hr' : (l.map fun a => ([g a] : List PV)) = (l.map g).map fun v => [v] := by rw [List.map_map]; rfl
  rw [hr'] at hit
  refine Ex.compFB (os := (l.map f).map some) (v := .list (l.map f)) (CompS.ofB ((l.map f).map some) hit cap hok (CompB.map (by simp) fun i v w hv hw X' env' h' C' => ?_) (by rw [fm_some]; simpa using hl) loc hkind hs line free) (by rw [fm_some]) er off hr
  obtain ⟨a, ha, rfl, rfl⟩ := get_map2 hv hw
  exact body a (List.mem_of_getElem? ha) X' env' h' C'
theorem Ex.compFT {α : Type} (l : List α) (g f : α → PV) (t : α → Bool) {elt target iter c : Expr} {scope : Scope} {pos px spos : Pos} {x y : Str} (hit : ∀ X h, Cx F.W F.A F.n X F.env h F.names ρ → EvIter F.W F.A X F.env h iter target [y] (l.map fun a => [g a]))
    (cap : Cap scope.names ρ ρ₂) (hok : compOk F.names scope.names [y] = true) (hl : l.length ≤ 100000)
    (body : ∀ a ∈ l, ∀ X' env' h', Cx F.W F.A F.n X' env' h' (relN F.names scope.names) ((y, g a) :: ρ₂) → EvB F.W F.A env' h' c (t a) ∧ (t a = true → Ev F.W F.A X' env' h' elt (f a))) (er : Erase x ρ ρ') (off : Off x ow) (hr : Ex F rest ((x, .list ((l.filter t).map f)) :: ρ') ow r)
    (loc : F.names.lookup x = some .local := by first | decide +kernel | (dsimp only; decide +kernel)) (hkind : scope.kind = .function := by rfl) (hs : ∀ x, foldedSetIterable iter F.env x = pure x := by intro _; rfl) (line : (px.line == pos.line) = true := by rfl)
    (free : (scope.names.any fun p => p.1 == x && (p.2 == .local || p.2 == .cell)) = false := by decide +kernel) :
    Ex F (.Assign [.Name x px] (.ListComp elt [⟨target, iter, [c], 0⟩] scope pos) spos :: rest) ρ ow r := by
  have hr' : (l.map fun a => ([g a] : List PV)) = (l.map g).map fun v => [v] := by rw [List.map_map]; rfl
  rw [hr'] at hit
  have hos : (l.map fun a => if t a then some (f a) else none).filterMap id = (l.filter t).map f := by
    clear hit hr' body hl hr
    induction l with
    | nil => rfl
    | cons a l ih =>
      rw [List.map_cons, List.filterMap_cons, List.filter_cons]
      cases t a <;> simp [ih]
  refine Ex.compFB (os := l.map fun a => if t a then some (f a) else none) (v := .list ((l.filter t).map f)) (CompS.ofB _ hit cap hok (CompB.filter (by simp) fun i v o hv ho X' env' h' C' => ?_) (by rw [hos, List.length_map]; exact Nat.le_trans (List.length_filter_le ..) hl) loc hkind hs line free) (by rw [hos]) er off hr
  obtain ⟨a, ha, rfl, rfl⟩ := get_map2 hv ho
  obtain ⟨b1, b2⟩ := body a (List.mem_of_getElem? ha) X' env' h' C'
  cases hta : t a with
  | true => rw [hta] at b1 b2; exact ⟨b1, fun w e => by cases e; exact b2 rfl⟩
  | false => rw [hta] at b1; exact ⟨b1, fun w e => by cases e⟩
theorem Ex.compFR {M : Nat} (f : Nat → PV) {elt e : Expr} {scope : Scope} {p py pos pos2 px spos : Pos} {x y : Str} (he : E1 F ρ e (N M)) (cap : Cap scope.names ρ ρ₂) (hok : compOk F.names scope.names [y] = true)
    (body : ∀ i, i < M → ∀ X' env' h', Cx F.W F.A F.n X' env' h' (relN F.names scope.names) ((y, N i) :: ρ₂) → Ev F.W F.A X' env' h' elt (f i)) (er : Erase x ρ ρ') (off : Off x ow) (hr : Ex F rest ((x, .list ((List.range M).map f)) :: ρ') ow r) (hM : M ≤ 100000 := by decide)
    (loc : F.names.lookup x = some .local := by first | decide +kernel | (dsimp only; decide +kernel)) (hkind : scope.kind = .function := by rfl) (line : (px.line == pos.line) = true := by rfl)
    (free : (scope.names.any fun p => p.1 == x && (p.2 == .local || p.2 == .cell)) = false := by decide +kernel)
    (hk : F.names.lookup ("range" : Str) = some .globalImplicit := by first | decide +kernel | (dsimp only; decide +kernel)) (hs : starEach [e] F.env = [(false, eval e F.env)] := by rfl) (hs2 : ∀ x, foldedSetIterable (.Call (.Name "range" p) [e] [] pos2) F.env x = pure x := by intro _; rfl) :
    Ex F (.Assign [.Name x px] (.ListComp elt [⟨.Name y py, .Call (.Name "range" p) [e] [] pos2, [], 0⟩] scope pos) spos :: rest) ρ ow r := by
  refine Ex.compF1 (List.range M) N f (fun X h C => ?_) cap hok (by simpa using hM) (fun i hi => body i (List.mem_range.mp hi)) er off hr loc hkind hs2 line free
  have := EvIter.rangeN C (x := y) (px := py) (p := p) (pos := pos2) (he X h C) (by omega) hk hs
  rwa [List.map_map] at this
end
end
section
open PySem PySem.Calls PyProof.Rows PySem.SeqAt
section
variable {W : Wd} {A : Around} {n : Nat} {Xc : AS} {env : Env} {Y : AS} {h₀ : Heap}
theorem F3_same {k : Nat} {p : Nat × Nat × Nat} (hk : k ≤ 9500) (h : p.1 < 2 ^ 30 ∧ p.2.1 < 2 ^ 30 ∧ p.2.2 < 2 ^ 30) : EqK k (F3 p) (F3 p) true :=
  EqK.tuple ⟨rfl, fun i x y hx hy => by
    rw [hx] at hy
    cases hy
    match i, hx with
    | 0, hx => cases hx; exact EqK.floatS h.1
    | 1, hx => cases hx; exact EqK.floatS h.2.1
    | 2, hx => cases hx; exact EqK.floatS h.2.2⟩ hk
set_option maxRecDepth 100000
set_option maxHeartbeats 4000000 in
theorem law7 (hW : W.ds = fns) (h0 : 0 < W.lo) {R rows : List Nat} {p heard : Nat} (hR : R.length = 10) (hr : rows.length = 6)
    (ht : ∀ l, l < 6 → timeS p rows l ≤ 6) (hp : ∀ l, l < 6 → (timeS p rows l % 2 = 1 ↔ (heard >>> l) &&& 1 = 1)) :
    Ex ⟨W, A, n + 2, Xc, env, Y, h₀, ns28⟩ ((fn 28).body.drop 24) [("numbers", Ns R), ("pressed", N p), ("rows", Ns rows), ("heard", N heard)] [] (.ret (.bool true)) := by
  have e3 : R[3]? = some R[3]! := get! (by omega)
  have b1 : ∀ l, hueS R l < 16 := fun l => Nat.mod_lt _ (by decide)
  have b2 : ∀ l, shareS R l < 9 := fun l => Nat.mod_lt _ (by decide)
  have b3 : ∀ l, levelS R l < 9 := fun l => Nat.mod_lt _ (by decide)
  refine Ex.unpack3 (a := Ns ((List.range 6).map (hueS R))) (b := Ns ((List.range 6).map (shareS R))) (c := Ns ((List.range 6).map (levelS R))) (.inl fun X h C => Ev.tuple C (EvArgs.cons (Ev.castL (Ev.compR (ρ' := [("numbers", Ns R)]) (fun l => N (hueS R l)) C Ev.nat (by walk_at "m.cap") (by walk_at "m.ok") fun l hl X' env' h' C' => ?_) rmap)
    (EvArgs.cons (Ev.castL (Ev.compR (ρ' := [("numbers", Ns R)]) (fun l => N (shareS R l)) C Ev.nat (by walk_at "m.cap") (by walk_at "m.ok") fun l hl X' env' h' C' => ?_) rmap) (EvArgs.cons (Ev.castL (Ev.compR (ρ' := [("numbers", Ns R)]) (fun l => N (levelS R l)) C Ev.nat (by walk_at "m.cap") (by walk_at "m.ok") fun l hl X' env' h' C' => ?_) rmap) EvArgs.nil))) (by simp))
    (by walk_at "m.bind") (by walk_at "m.off") (by walk_at "m.off") (by walk_at "m.off") ?_ (hw := fun _ hn => swap_none3 (by unfold Env.kindOf; rw [hn]; show ns28.lookup ("hues" : Str) ≠ some .local; decide +kernel) rfl rfl rfl)
  · walk_at "m.ev"
  · walk_at "m.ev"
  · walk_at "m.ev"
  have dv : ∀ {a b c : Nat}, 0 < b → a * 512 = c * b → a < 2 ^ 30 → b < 2 ^ 30 → c < 2 ^ 30 → Fun W (n + 2) (fn 8) [N a, N b] (Fl (c : Nat)) := fun h1 h2 h3 h4 h5 => f_div fun _ => Op2.divI h1 h2 h3 h4 h5
  refine Ex.compC (v := Ns ((List.range 6).map (timeS p rows))) (fun X h C => Ev.castL (Ev.compR (ρ' := [("pressed", N p), ("rows", Ns rows)]) (fun l => N (timeS p rows l)) C Ev.nat (by walk_at "m.cap") (by walk_at "m.ok") fun l hl X' env' h' C' => ?_) rmap) (by walk_at "m.erase") (by walk_at "m.off") ?_
  · refine Ev.callB C' (EvArgs.cons (Ev.castL (Ev.compR (ρ' := [("lamp", N l), ("pressed", N p), ("rows", Ns rows)]) (fun one => N (p >>> (one + 6) &&& (rows[one]! >>> l) &&& 1)) C' Ev.nat (by walk_at "m.cap") (by walk_at "m.ok") fun one ho X'' env'' h'' C'' => ?_) rmap) EvArgs.nil) Op.sum
    have e4 : rows[one]? = some rows[one]! := get! (by omega)
    walk_at "m.ev"
  refine Ex.compC (v := .list ((List.range 6).map fun l => F3 (greyS R l))) (fun X h C => Ev.compR (ρ' := [("levels", Ns ((List.range 6).map (levelS R))), ("shares", Ns ((List.range 6).map (shareS R)))]) (fun l => F3 (greyS R l)) C Ev.nat (by walk_at "m.cap") (by walk_at "m.ok") fun l hl X' env' h' C' => ?_) (by walk_at "m.erase") (by walk_at "m.off") ?_
  · have g1 : ((List.range 6).map (levelS R))[l]? = some (levelS R l) := rget hl
    have g2 : ((List.range 6).map (shareS R))[l]? = some (shareS R l) := rget hl
    have c2 := b2 l
    have c3 := b3 l
    have c4 : levelS R l * (16 - shareS R l) ≤ 8 * 16 := Nat.mul_le_mul (Nat.le_of_lt_succ c3) (Nat.sub_le ..)
    generalize hq : levelS R l = q2 at *
    generalize hs : shareS R l = q1 at *
    have o1 : q2 < 2 ^ 64 ∨ 16 - q1 < 2 ^ 64 := .inl (Nat.lt_trans c3 (by decide))
    refine Ev.cast (Ev.tuple C' (EvArgs.cons (Ev.callF C' (fn 8) (by walk_at "m.args") (dv (c := 0) (by decide) (by decide) (by decide) (by decide) (by decide)) (mem_of hW (by decide)) id8) (EvArgs.cons (Ev.callF C' (fn 8) (by walk_at "m.args") (dv (c := 0) (by decide) (by decide) (by decide) (by decide) (by decide)) (mem_of hW (by decide)) id8)
      (EvArgs.cons (Ev.callF C' (fn 8) (EvArgs.cons (v := N (q2 * (16 - q1))) (by walk_at "m.ev") (EvArgs.cons Ev.nat EvArgs.nil)) (dv (c := 8 * (q2 * (16 - q1))) (by decide) (by omega) (Nat.lt_of_le_of_lt c4 (by decide)) (by decide) (Nat.lt_of_le_of_lt (Nat.mul_le_mul_left 8 c4) (by decide))) (mem_of hW (by decide)) id8) EvArgs.nil))) (by simp)) (by subst hq; subst hs; rfl)
  refine Ex.compC (v := .list ((List.range 6).map fun l => F3 (keptS R l))) (fun X h C => Ev.compR (ρ' := [("levels", Ns ((List.range 6).map (levelS R))), ("shares", Ns ((List.range 6).map (shareS R))), ("hues", Ns ((List.range 6).map (hueS R)))]) (fun l => F3 (keptS R l)) C Ev.nat (by walk_at "m.cap") (by walk_at "m.ok") fun l hl X' env' h' C' => ?_) (by walk_at "m.erase") (by walk_at "m.off") ?_
  · have g1 : ((List.range 6).map (levelS R))[l]? = some (levelS R l) := rget hl
    have g2 : ((List.range 6).map (shareS R))[l]? = some (shareS R l) := rget hl
    have g3 : ((List.range 6).map (hueS R))[l]? = some (hueS R l) := rget hl
    have c1 := b1 l
    have c2 := b2 l
    have c3 := b3 l
    have c5 : hueS R l * min 1 (shareS R l * levelS R l) ≤ 15 * 1 := Nat.mul_le_mul (Nat.le_of_lt_succ c1) (Nat.min_le_left _ _)
    have c6 : shareS R l * min 1 (levelS R l) ≤ 8 * 1 := Nat.mul_le_mul (Nat.le_of_lt_succ c2) (Nat.min_le_left _ _)
    generalize hq : levelS R l = q2 at *
    generalize hs : shareS R l = q1 at *
    generalize hh : hueS R l = q0 at *
    have o1 : q1 < 2 ^ 64 ∨ q2 < 2 ^ 64 := .inl (Nat.lt_trans c2 (by decide))
    have c7 : 2 * q2 ≤ 2 * 8 := Nat.mul_le_mul_left 2 (Nat.le_of_lt_succ c3)
    refine Ev.cast (Ev.tuple C' (EvArgs.cons (Ev.callF C' (fn 8) (EvArgs.cons (v := N (q0 * min 1 (q1 * q2))) (Ev.bin C' (by walk_at "m.ev") (Ev.callB C' (EvArgs.cons (v := N 1) Ev.nat (EvArgs.cons (v := N (q1 * q2)) (by walk_at "m.ev") EvArgs.nil)) Op.min2) (Op2.mul_nat (.inl (by omega)))) (EvArgs.cons Ev.nat EvArgs.nil)) (dv (c := 32 * (q0 * min 1 (q1 * q2))) (by decide) (by omega) (Nat.lt_of_le_of_lt c5 (by decide)) (by decide) (Nat.lt_of_le_of_lt (Nat.mul_le_mul_left 32 c5) (by decide))) (mem_of hW (by decide)) id8)
      (EvArgs.cons (Ev.callF C' (fn 8) (EvArgs.cons (v := N (q1 * min 1 q2)) (Ev.bin C' (by walk_at "m.ev") (Ev.callB C' (EvArgs.cons (v := N 1) Ev.nat (EvArgs.cons (v := N q2) (by walk_at "m.ev") EvArgs.nil)) Op.min2) (Op2.mul_nat (.inl (by omega)))) (EvArgs.cons Ev.nat EvArgs.nil)) (dv (c := 64 * (q1 * min 1 q2)) (by decide) (by omega) (Nat.lt_of_le_of_lt c6 (by decide)) (by decide) (Nat.lt_of_le_of_lt (Nat.mul_le_mul_left 64 c6) (by decide))) (mem_of hW (by decide)) id8)
      (EvArgs.cons (Ev.callF C' (fn 8) (EvArgs.cons (v := N (2 * q2)) (by walk_at "m.ev") (EvArgs.cons Ev.nat EvArgs.nil)) (dv (c := 64 * (2 * q2)) (by decide) (by omega) (Nat.lt_of_le_of_lt c7 (by decide)) (by decide) (Nat.lt_of_le_of_lt (Nat.mul_le_mul_left 64 c7) (by decide))) (mem_of hW (by decide)) id8) EvArgs.nil))) (by simp)) (by subst hq; subst hs; subst hh; rfl)
  refine Ex.compFR (ρ₂ := [("times", Ns ((List.range 6).map (timeS p rows))), ("levels", Ns ((List.range 6).map (levelS R))), ("shares", Ns ((List.range 6).map (shareS R))), ("hues", Ns ((List.range 6).map (hueS R)))]) (fun l => F3 (mixN (hueS R l) (shareS R l) (levelS R l) (timeS p rows l))) (fun X h C => Ev.nat) (by walk_at "m.cap") (by walk_at "m.ok") (fun l hl X' env' h' C' => ?_) (by walk_at "m.erase") (by walk_at "m.off") ?_
  · have g1 : ((List.range 6).map (levelS R))[l]? = some (levelS R l) := rget hl
    have g2 : ((List.range 6).map (shareS R))[l]? = some (shareS R l) := rget hl
    have g3 : ((List.range 6).map (hueS R))[l]? = some (hueS R l) := rget hl
    have g4 : ((List.range 6).map (timeS p rows))[l]? = some (timeS p rows l) := rget hl
    exact Ev.callF C' (fn 27) (EvArgs.cons (Ev.sub C' (by walk_at "m.ev") (by walk_at "m.ev") (Op2.sub_Ns g3 (by omega))) (EvArgs.cons (Ev.sub C' (by walk_at "m.ev") (by walk_at "m.ev") (Op2.sub_Ns g2 (by omega))) (EvArgs.cons (Ev.sub C' (by walk_at "m.ev") (by walk_at "m.ev") (Op2.sub_Ns g1 (by omega))) (EvArgs.cons (Ev.sub C' (by walk_at "m.ev") (by walk_at "m.ev") (Op2.sub_Ns g4 (by omega))) EvArgs.nil)))) (f_mixed h0 hW (b1 l) (b2 l) (b3 l) (ht l hl)) (mem_of hW (by decide)) id27
  have hsame : (List.range 6).map (fun l => if (heard >>> l &&& 1 == 1) = true then F3 (greyS R l) else F3 (keptS R l)) = (List.range 6).map fun l => F3 (mixN (hueS R l) (shareS R l) (levelS R l) (timeS p rows l)) := by
    refine List.map_congr_left fun l hl => ?_
    have hl6 := List.mem_range.mp hl
    have := hp l hl6
    by_cases hq : heard >>> l &&& 1 = 1
    · rw [if_pos (by rw [hq]; rfl)]
      unfold mixN
      rw [if_pos (this.mpr hq)]
    · rw [if_neg (by simpa using hq)]
      unfold mixN
      rw [if_neg fun h => hq (this.mp h)]
  have hbig : ∀ l, l < 6 → (mixN (hueS R l) (shareS R l) (levelS R l) (timeS p rows l)).1 < 2 ^ 30 ∧ (mixN (hueS R l) (shareS R l) (levelS R l) (timeS p rows l)).2.1 < 2 ^ 30 ∧ (mixN (hueS R l) (shareS R l) (levelS R l) (timeS p rows l)).2.2 < 2 ^ 30 := by
    intro l hl
    have c1 := b1 l
    have c2 := b2 l
    have c3 := b3 l
    have c4 : levelS R l * (16 - shareS R l) ≤ 8 * 16 := Nat.mul_le_mul (Nat.le_of_lt_succ c3) (Nat.sub_le ..)
    have c5 : hueS R l * min 1 (shareS R l * levelS R l) ≤ 15 * 1 := Nat.mul_le_mul (Nat.le_of_lt_succ c1) (Nat.min_le_left _ _)
    have c6 : shareS R l * min 1 (levelS R l) ≤ 8 * 1 := Nat.mul_le_mul (Nat.le_of_lt_succ c2) (Nat.min_le_left _ _)
    unfold mixN
    split
    · exact ⟨(by decide : 0 < 2 ^ 30), (by decide : 0 < 2 ^ 30), Nat.lt_of_le_of_lt (Nat.mul_le_mul_left 8 c4) (by decide)⟩
    · exact ⟨Nat.lt_of_le_of_lt (Nat.mul_le_mul_left 32 c5) (by decide), Nat.lt_of_le_of_lt (Nat.mul_le_mul_left 64 c6) (by decide), Nat.lt_of_le_of_lt (Nat.mul_le_mul_left 64 (Nat.mul_le_mul_left 2 (Nat.le_of_lt_succ c3))) (by decide)⟩
  have tup : ∀ {l : List PV} {a b c : PV}, l = [a, b, c] → PV.tuple l = PV.tuple [a, b, c] := fun h => by rw [h]
  refine Ex.ret (fun X h C => Ev.cast (Ev.and (a := true) (b := true) C (Ev.cmp C (by walk_at "m.ev") (Ev.castL (Ev.compR (ρ' := [("kept", .list ((List.range 6).map fun l => F3 (keptS R l))), ("grey", .list ((List.range 6).map fun l => F3 (greyS R l))), ("heard", N heard)])
      (fun l => if (heard >>> l &&& 1 == 1) = true then F3 (greyS R l) else F3 (keptS R l)) C Ev.nat (by walk_at "m.cap") (by walk_at "m.ok") fun l hl X' env' h' C' => ?_) hsame) (Op2.eqL (Sames.of_map fun l hl => F3_same (by decide) (hbig l (List.mem_range.mp hl))))) fun _ => Ev.andOne (Ev.cmp C (Ev.castL (l' := []) (Ev.comp2 (xs := ["light"]) (ys := ["part"]) (outs := (List.range 6).map fun _ => []) (ρ' := []) C
      (EvIter.list C (by walk_at "m.ev")) (by walk_at "m.cap") (by walk_at "m.ok") (by walk_at "m.ok") (by simp) (by rw [show ((List.range 6).map fun _ => ([] : List PV)).flatten = [] from rfl]; exact Nat.zero_le _) fun i row out hrow hout => ?_) rfl) (Ev.list C EvArgs.nil (by simp)) (Op2.eq_nil (l := [])))) rfl)
  · refine Ev.ite (c := (heard >>> l &&& 1 == 1)) (EvB.cmp C' (by walk_at "m.ev") Ev.nat Op2.eq_nat) (fun e => ?_) (fun e => ?_)
    · rw [if_pos e]
      exact Ev.sub C' (by walk_at "m.ev") (by walk_at "m.ev") (Op2.sub_list (rgetP hl) (by omega))
    · rw [if_neg (by rw [e]; exact Bool.false_ne_true)]
      exact Ev.sub C' (by walk_at "m.ev") (by walk_at "m.ev") (Op2.sub_list (rgetP hl) (by omega))
  · obtain ⟨v, hv, rfl⟩ := get_map hrow
    obtain ⟨l, hl, rfl⟩ := get_map hv
    obtain ⟨l', hl', rfl⟩ := get_map hout
    generalize mixN (hueS R l) (shareS R l) (levelS R l) (timeS p rows l) = q
    refine ⟨[Fl (q.1 : Nat), Fl (q.2.1 : Nat), Fl (q.2.2 : Nat)].map fun v => [v], [[], [], []], rfl, rfl, by decide, fun X' env' h' C' => ?_, fun j row2 out2 h1 h2 X' env' h' C' => ?_⟩
    · have C'' : Cx W A (n + 2) X' env' h' _ [("light", F3 q)] := C'
      exact EvIter.tuple C'' (by walk_at "m.ev")
    have key : ∃ z, row2 = [Fl z] ∧ out2 = [] := by
      match j, h1, h2 with
      | 0, h1, h2 => cases h1; cases h2; exact ⟨_, rfl, rfl⟩
      | 1, h1, h2 => cases h1; cases h2; exact ⟨_, rfl, rfl⟩
      | 2, h1, h2 => cases h1; cases h2; exact ⟨_, rfl, rfl⟩
    obtain ⟨z, rfl, rfl⟩ := key
    have C'' : Cx W A (n + 2) X' env' h' _ [("part", Fl z), ("light", F3 q)] := C'
    exact ⟨false, .none, rfl, rfl, EvIfs.one (EvB.cast (EvB.not (EvB.val C'' (Ev.isFloat C'' (by walk_at "m.ev")) Truth.bool)) rfl), fun e => nomatch e⟩
end
end
section
open PySem PySem.Calls PyProof.Rows PySem.SeqAt
noncomputable abbrev parS (heard one : Nat) : Nat := ((List.range 6).map fun lamp => (one &&& heard) >>> lamp &&& 1).sum
noncomputable abbrev oddS (heard : Nat) (silent : List Nat) : List Nat := silent.filter fun one => parS heard one % 2 == 1
section
variable {W : Wd} {A : Around} {n : Nat} {Xc : AS} {env : Env} {Y : AS} {h₀ : Heap}
set_option maxRecDepth 100000
set_option maxHeartbeats 4000000 in
theorem law6 (hW : W.ds = fns) (h0 : 0 < W.lo) {R rows due made : List Nat} {p tried heard wish : Nat} (hR : R.length = 10) (hr : rows.length = 6) (hd : due.length = 6) (hsl : (stS due 6).2.length ≤ 100000)
    (ht : ∀ l, l < 6 → timeS p rows l ≤ 6) (hp : ∀ l, l < 6 → (timeS p rows l % 2 = 1 ↔ (heard >>> l) &&& 1 = 1))
    (q1 : (!((tried &&& 63 : Nat) : Int) != 0) = made.contains wish) (q2 : made.contains wish = true → made[tried >>> 6]? = some wish) (q2b : tried >>> 6 < 2 ^ 62) (q3 : (madeS due).contains heard = (oddS heard (stS due 6).2).isEmpty) (q4 : (stS due 6).2.isEmpty = (waysS due % 2 == 1)) :
    Ex ⟨W, A, n + 3, Xc, env, Y, h₀, ns28⟩ ((fn 28).body.drop 21) [("numbers", Ns R), ("pressed", N p), ("rows", Ns rows), ("heard", N heard), ("wish", N wish), ("due", Ns due), ("made", Ns made), ("others", Ns due), ("tried", N tried)] [] (.ret (.bool true)) := by
  generalize hsil : (stS due 6).2 = silent at *
  refine Ex.assign (v := Ns silent) (fun X h C => Ev.cast (Ev.sub C (Ev.callF C (fn 24) (by walk_at "m.args") (f_stairs hW hd) (mem_of hW (by decide)) id24) Ev.nat (Op2.sub_tuple (k := 1) (v := Ns (stS due 6).2) rfl)) (by rw [hsil])) (by walk_at "m.erase") (by walk_at "m.off") ?_
  refine Ex.compFT (y := "one") (ρ₂ := [("heard", N heard)]) silent N N (fun one => parS heard one % 2 == 1) (fun X h C => ?_) (by walk_at "m.cap") (by walk_at "m.ok") hsl (fun one hone X' env' h' C' => ⟨?_, fun _ => by walk_at "m.ev"⟩) (by walk_at "m.erase") (by walk_at "m.off") ?_
  · exact EvIter.rows (EvIter.list C (l := silent.map N) (by walk_at "m.ev")) (by rw [List.map_map]; rfl)
  · refine EvB.cmp C' (Ev.bin C' (Ev.callB C' (EvArgs.cons (Ev.castL (Ev.compR (ρ' := [("one", N one), ("heard", N heard)]) (fun lamp => N ((one &&& heard) >>> lamp &&& 1)) C' Ev.nat (by walk_at "m.cap") (by walk_at "m.ok") fun l hl X'' env'' h'' C'' => ?_) rmap) EvArgs.nil) Op.sum) Ev.nat (Op2.mod_nat (by decide))) Ev.nat Op2.eq_nat
    walk_at "m.ev"
  refine Ex.ite (c := false) (fun X h C => EvB.cast (EvB.or (a := false) (b := false) ?c1 fun _ => EvB.or (a := false) (b := false) ?c2 fun _ => EvB.or (a := false) (b := false) ?c3 fun _ => EvB.or (a := false) (b := false) ?c4 fun _ => EvB.orNil) rfl) (fun h => nomatch h) (fun _ => ⟨.next _ _, Ex.nil, Then.next (Ex.weak (ρ' := [("numbers", Ns R), ("pressed", N p), ("rows", Ns rows), ("heard", N heard)]) (by walk_at "m.sub") (law7 hW h0 hR hr ht hp))⟩)
  case c1 =>
    refine EvB.cast (EvB.cmp C (Ev.callF C (fn 0) (EvArgs.cons (v := N (tried &&& 63)) (by walk_at "m.ev") EvArgs.nil) (f_not fun _ => Truth.int) (mem_of hW (by decide)) id0) (Ev.cmp C (by walk_at "m.ev") (by walk_at "m.ev") Op2.in_Ns) Op2.isnot_bool) ?_
    rw [q1, bne_self_eq_false]
  case c2 =>
    refine EvB.cast (EvB.and (a := made.contains wish) (b := false) (EvB.cmp C (by walk_at "m.ev") (by walk_at "m.ev") Op2.in_Ns) fun hc => EvB.cast (EvB.and (a := false) (b := true) (EvB.cast (EvB.cmp C (Ev.sub C (by walk_at "m.ev") (v := N wish) (i := N (tried >>> 6)) (by walk_at "m.ev") (Op2.sub_Ns (q2 hc) (by omega))) (by walk_at "m.ev") Op2.ne_nat) (bne_self_eq_false _)) fun hc => nomatch hc) rfl) (Bool.and_false _)
  case c3 =>
    refine EvB.cast (EvB.cmp C (Ev.cmp C (by walk_at "m.ev") (Ev.callF C (fn 25) (by walk_at "m.args") (f_made hW (by omega)) (mem_of hW (by decide)) id25) Op2.in_Ns) (Ev.cmp C (by walk_at "m.ev") (Ev.list C EvArgs.nil (by simp)) Op2.eq_nil) Op2.ne_bool) ?_
    rw [q3, List.isEmpty_map, bne_self_eq_false]
  case c4 =>
    refine EvB.cast (EvB.cmp C (Ev.cmp C (by walk_at "m.ev") (Ev.list C EvArgs.nil (by simp)) Op2.eq_nil) (Ev.cmp C (Ev.bin C (Ev.callF C (fn 26) (by walk_at "m.args") (f_ways hW hd) (mem_of hW (by decide)) id26) Ev.nat (Op2.mod_nat (by decide))) Ev.nat Op2.eq_nat) Op2.ne_bool) ?_
    rw [List.isEmpty_map, q4, bne_self_eq_false]
end
end
section
open PySem PySem.Calls PyProof.Rows PySem.SeqAt
noncomputable abbrev kerS (rows : List Nat) : List Nat := (List.range 64).filter fun s => (madeS rows)[s]! == 0
section
variable {W : Wd} {A : Around} {n : Nat} {Xc : AS} {env : Env} {Y : AS} {h₀ : Heap}
set_option maxRecDepth 100000
set_option maxHeartbeats 4000000 in
theorem law5 (hW : W.ds = fns) (h0 : 0 < W.lo) {R rows due : List Nat} {heard wish : Nat} (hR : R.length = 10) (hr : rows.length = 6) (hd : due.length = 6) (hsl : (stS due 6).2.length ≤ 100000)
    (hq : (stS rows 6).2.length ≤ 6) (hm : (madeS rows).length = 64) (r1 : (kerS rows).Perm (madeS (stS rows 6).2)) (r1b : (madeS (stS rows 6).2).length < 64 ∨ ((madeS (stS rows 6).2).length = 64 ∧ madeS (stS rows 6).2 = kerS rows))
    (r2 : redS heard (stS rows 6).1 &&& 63 = 0) (r3 : (madeS rows)[redS heard (stS rows 6).1 >>> 6]? = some heard)
    (ht : ∀ l, l < 6 → timeS (redS heard (stS rows 6).1) rows l ≤ 6) (hp : ∀ l, l < 6 → (timeS (redS heard (stS rows 6).1) rows l % 2 = 1 ↔ (heard >>> l) &&& 1 = 1))
    (q1 : (!((redS wish (stS rows 6).1 &&& 63 : Nat) : Int) != 0) = (madeS rows).contains wish) (q2 : (madeS rows).contains wish = true → (madeS rows)[redS wish (stS rows 6).1 >>> 6]? = some wish) (q2b : redS wish (stS rows 6).1 >>> 6 < 2 ^ 62)
    (q3 : (madeS due).contains heard = (oddS heard (stS due 6).2).isEmpty) (q4 : (stS due 6).2.isEmpty = (waysS due % 2 == 1)) :
    Ex ⟨W, A, n + 3, Xc, env, Y, h₀, ns28⟩ ((fn 28).body.drop 18) [("numbers", Ns R), ("rows", Ns rows), ("heard", N heard), ("wish", N wish), ("due", Ns due), ("made", Ns (madeS rows)), ("others", Ns due), ("drawn", Ns rows)] [] (.ret (.bool true)) := by
  generalize hst : (stS rows 6).1 = st at *
  generalize hqu : (stS rows 6).2 = quiet at *
  generalize hpr : redS heard st = p at *
  generalize htr : redS wish st = tried at *
  generalize hma : madeS rows = made at *
  refine Ex.unpack2 (a := pairsN st) (b := Ns quiet) (.inl fun X h C => Ev.cast (Ev.callF C (fn 24) (by walk_at "m.args") (f_stairs hW hr) (mem_of hW (by decide)) id24) (by rw [hst, hqu])) (by walk_at "m.bind") (by walk_at "m.off") (by walk_at "m.off") ?_
  refine Ex.unpack2 (a := N p) (b := N tried) (.inl fun X h C => Ev.tuple C (EvArgs.cons (Ev.cast (Ev.callF C (fn 23) (by walk_at "m.args") (f_reduced hW) (mem_of hW (by decide)) id23) (by rw [hpr])) (EvArgs.cons (Ev.cast (Ev.callF C (fn 23) (by walk_at "m.args") (f_reduced hW) (mem_of hW (by decide)) id23) (by rw [htr])) EvArgs.nil)) (by simp)) (by walk_at "m.bind") (by walk_at "m.off") (by walk_at "m.off") ?_
    (hw := fun _ hn => swap_none2 (.inl (by unfold Env.kindOf; rw [hn]; show ns28.lookup ("pressed" : Str) ≠ some .local; decide +kernel)) rfl rfl)
  have hker : ((List.range 64).filter fun s => made[s]! == 0) = kerS rows := by unfold kerS; rw [hma]
  refine Ex.ite (c := false) (fun X h C => EvB.cast (EvB.or (a := false) (b := false) ?c1 fun _ => EvB.or (a := false) (b := false) ?c2 fun _ => EvB.or (a := false) (b := false) ?c3 fun _ => EvB.orNil) rfl) (fun h => nomatch h) (fun _ => ⟨.next _ _, Ex.nil, Then.next (Ex.weak (ρ' := [("numbers", Ns R), ("pressed", N p), ("rows", Ns rows), ("heard", N heard), ("wish", N wish), ("due", Ns due), ("made", Ns made), ("others", Ns due), ("tried", N tried)]) (by walk_at "m.sub") (law6 hW h0 hR hr hd hsl ht hp q1 q2 q2b q3 q4))⟩)
  case c1 =>
    refine EvB.cmp C (Ev.callB C (EvArgs.cons (v := Ns (madeS quiet)) (Ev.callF C (fn 25) (by walk_at "m.args") (f_made hW hq) (mem_of hW (by decide)) id25) EvArgs.nil) (Op.sorted (l' := kerS rows) r1 ?_ r1b)) (Ev.castL (Ev.compRT (ρ' := [("made", Ns made)]) N (fun s => made[s]! == 0) C Ev.nat (by walk_at "m.cap") (by walk_at "m.ok") fun s hs X' env' h' C' => ⟨?_, fun _ => by walk_at "m.ev"⟩) (by rw [hker])) (Op2.neL Sames.nats)
    · exact (List.pairwise_lt_range.imp fun h => Nat.le_of_lt h).filter _
    · have g : made[s]? = some made[s]! := get! (by omega)
      exact EvB.cmp C' (by walk_at "m.ev") Ev.nat Op2.eq_nat
  case c2 => exact EvB.cast (EvB.cmp C (Ev.cast (v' := N 0) (v := N (p &&& 63)) (by walk_at "m.ev") (by rw [r2])) Ev.nat Op2.ne_nat) rfl
  case c3 => exact EvB.cast (EvB.cmp C (Ev.sub C (by walk_at "m.ev") (v := N heard) (i := N (p >>> 6)) (by walk_at "m.ev") (Op2.sub_Ns r3 (by have := (List.getElem?_eq_some_iff.mp r3).1; omega))) (by walk_at "m.ev") Op2.ne_nat) (bne_self_eq_false _)
end
end
section
open PySem PySem.Calls PyProof.Rows PySem.SeqAt
/-- what the law says about the two nets -/
structure Alg (rows due : List Nat) (heard wish : Nat) : Prop where
  hr : rows.length = 6
  hd : due.length = 6
  hsl : (stS due 6).2.length ≤ 100000
  hq : (stS rows 6).2.length ≤ 6
  hm : (madeS rows).length = 64
  r1 : (kerS rows).Perm (madeS (stS rows 6).2)
  r1b : (madeS (stS rows 6).2).length < 64 ∨ ((madeS (stS rows 6).2).length = 64 ∧ madeS (stS rows 6).2 = kerS rows)
  r2 : redS heard (stS rows 6).1 &&& 63 = 0
  r3 : (madeS rows)[redS heard (stS rows 6).1 >>> 6]? = some heard
  ht : ∀ l, l < 6 → timeS (redS heard (stS rows 6).1) rows l ≤ 6
  hp : ∀ l, l < 6 → (timeS (redS heard (stS rows 6).1) rows l % 2 = 1 ↔ (heard >>> l) &&& 1 = 1)
  q1 : (!((redS wish (stS rows 6).1 &&& 63 : Nat) : Int) != 0) = (madeS rows).contains wish
  q2 : (madeS rows).contains wish = true → (madeS rows)[redS wish (stS rows 6).1 >>> 6]? = some wish
  q2b : redS wish (stS rows 6).1 >>> 6 < 2 ^ 62
  q3 : (madeS due).contains heard = (oddS heard (stS due 6).2).isEmpty
  q4 : (stS due 6).2.isEmpty = (waysS due % 2 == 1)
  hh : heard < 64
  hw : wish < 64
  a1 : (((List.range 6).filter fun l => rows[l]! != due[l]!).map fun l => 1 <<< l).sum = heard ^^^ wish
  a2 : (rows.zipIdx.map fun p => p.1 ^^^ ((heard ^^^ wish) &&& (1 <<< p.2))) = due

theorem sgn_fin : ∀ h w : Fin 64, Builtin.bitXor ((h.val : Nat) : Int) (-((w.val + 1 : Nat) : Int)) = -1 - ((h.val ^^^ w.val : Nat) : Int) ∧ Builtin.bitXor (-((h.val + 1 : Nat) : Int)) ((w.val : Nat) : Int) = -1 - ((h.val ^^^ w.val : Nat) : Int) ∧
    Builtin.bitXor (-((h.val + 1 : Nat) : Int)) (-((w.val + 1 : Nat) : Int)) = ((h.val ^^^ w.val : Nat) : Int) := by decide +kernel
theorem sgn_ok {h w : Nat} (hh : h < 64) (hw : w < 64) : Builtin.bitXor (h : Int) (-((w + 1 : Nat) : Int)) = -1 - ((h ^^^ w : Nat) : Int) ∧ Builtin.bitXor (-((h + 1 : Nat) : Int)) (w : Int) = -1 - ((h ^^^ w : Nat) : Int) ∧
    Builtin.bitXor (-((h + 1 : Nat) : Int)) (-((w + 1 : Nat) : Int)) = ((h ^^^ w : Nat) : Int) := sgn_fin ⟨h, hh⟩ ⟨w, hw⟩

section
variable {F : Fp} {ρ ρ' ρ₂ ow : List (Str × PV)} {r : R} {rest : List Stmt}
theorem Ex.compF2 {α : Type} (l : List α) (g1 g2 f : α → PV) {elt target iter : Expr} {scope : Scope} {pos px spos : Pos} {x y1 y2 : Str} (hit : ∀ X h, Cx F.W F.A F.n X F.env h F.names ρ → EvIter F.W F.A X F.env h iter target [y1, y2] (l.map fun a => [g1 a, g2 a]))
    (cap : Cap scope.names ρ ρ₂) (hok : compOk F.names scope.names [y1, y2] = true) (hl : l.length ≤ 100000)
    (body : ∀ a ∈ l, ∀ X' env' h', Cx F.W F.A F.n X' env' h' (relN F.names scope.names) ((y1, g1 a) :: (y2, g2 a) :: ρ₂) → Ev F.W F.A X' env' h' elt (f a)) (er : Erase x ρ ρ') (off : Off x ow) (hr : Ex F rest ((x, .list (l.map f)) :: ρ') ow r)
    (loc : F.names.lookup x = some .local := by first | decide +kernel | (dsimp only; decide +kernel)) (hkind : scope.kind = .function := by rfl) (hs : ∀ x, foldedSetIterable iter F.env x = pure x := by intro _; rfl) (line : (px.line == pos.line) = true := by rfl)
    (free : (scope.names.any fun p => p.1 == x && (p.2 == .local || p.2 == .cell)) = false := by decide +kernel) :
    Ex F (.Assign [.Name x px] (.ListComp elt [⟨target, iter, [], 0⟩] scope pos) spos :: rest) ρ ow r := by
  refine Ex.compFB (os := (l.map f).map some) (v := .list (l.map f)) (CompS.ofB ((l.map f).map some) hit cap hok ⟨by simp, fun i row o hr ho X' env' h' C' => ?_⟩ (by rw [fm_some]; simpa using hl) loc hkind hs line free) (by rw [fm_some]) er off hr
  obtain ⟨a, ha, rfl⟩ := get_map hr
  rw [List.getElem?_map, List.getElem?_map, ha] at ho
  cases ho
  exact ⟨EvIfs.nil, body a (List.mem_of_getElem? ha) X' env' h' C'⟩
end

section
variable {W : Wd} {A : Around} {n : Nat} {Xc : AS} {env : Env} {Y : AS} {h₀ : Heap}
set_option maxRecDepth 100000
set_option maxHeartbeats 4000000 in
theorem law4 (hW : W.ds = fns) (h0 : 0 < W.lo) {P : Nat → Prop} (hP : ∀ t, P t → 0 < t ∧ t < W.lo) {R rows due : List Nat} {heard wish : Nat} {nms : List Str} {l : List (Str × Str)} (hR : R.length = 10) (G : Alg rows due heard wish) (hnl : nms.length = 6)
    (hl : ∀ p ∈ l, p.1 ∈ nms ++ nms ∧ idx (nms ++ nms) p.1 < 6 ∧ p.2.cps.toList.length ≤ 900 ∧ ∀ c ∈ pParse p.2.cps.toList, c ∈ nms ++ nms ∧ idx (nms ++ nms) c < 6) (hread : readS (nms ++ nms) l = rows) :
    Ex ⟨W, A, n + 3, Xc, env, Y, h₀, ns28⟩ ((fn 28).body.drop 13) [("numbers", Ns R), ("rows", Ns rows), ("heard", N heard), ("wish", N wish), ("due", Ns due), ("table", DictV W l), ("names", .list (nms.map (.strP P)))] [] (.ret (.bool true)) := by
  have hr := G.hr
  have hd := G.hd
  refine Ex.unpack2 (a := Ns rows) (b := Ns (madeS rows)) (.inl fun X h C => Ev.tuple C (EvArgs.cons (Ev.cast (Ev.callF C (fn 21) (EvArgs.cons (by walk_at "m.ev") (EvArgs.cons (v := .list ((nms ++ nms).map (.strP P))) (Ev.cast (Ev.bin C (by walk_at "m.ev") (by walk_at "m.ev") (Op2.add_list (by rw [List.length_map]; omega))) (by rw [List.map_append])) EvArgs.nil)) (f_read hW hP hl) (mem_of hW (by decide)) id21) (by rw [hread])) (EvArgs.cons (Ev.callF C (fn 25) (by walk_at "m.args") (f_made hW (by omega)) (mem_of hW (by decide)) id25) EvArgs.nil)) (by simp)) (by walk_at "m.bind") (by walk_at "m.off") (by walk_at "m.off") ?_
    (hw := fun _ hn => swap_none2 (.inr (by unfold Env.kindOf; rw [hn]; show ns28.lookup ("made" : Str) ≠ some .local; decide +kernel)) rfl rfl)
  refine Ex.assign (v := N (heard ^^^ wish)) (fun X h C => Ev.cast (Ev.callB C (EvArgs.cons (Ev.castL (l' := (((List.range 6).filter fun l => rows[l]! != due[l]!).map fun l => 1 <<< l).map N) (Ev.compRT (ρ' := [("rows", Ns rows), ("due", Ns due)]) (fun l => N (1 <<< l)) (fun l => rows[l]! != due[l]!) C Ev.nat (by walk_at "m.cap") (by walk_at "m.ok") fun l hl6 X' env' h' C' => ⟨?_, fun _ => ?_⟩) (by rw [List.map_map]; rfl)) EvArgs.nil) Op.sum) (by rw [G.a1])) (by walk_at "m.erase") (by walk_at "m.off") ?_
  · have g1 : rows[l]? = some rows[l]! := get! (by omega)
    have g2 : due[l]? = some due[l]! := get! (by omega)
    exact EvB.cmp C' (by walk_at "m.ev") (by walk_at "m.ev") Op2.ne_nat
  · exact Ev.bin C' Ev.nat (by walk_at "m.ev") (Op2.shl_nat (by omega) (by decide))
  obtain ⟨s1, s2, s3⟩ := sgn_ok G.hh G.hw
  refine Ex.comp2F (xs := ["one"]) (ys := ["other"]) (ρ₂ := [("wish", N wish)]) (rows := [N heard, .int (-((heard + 1 : Nat) : Int))].map fun v => [v]) (outs := [[N (heard ^^^ wish), .int (-1 - ((heard ^^^ wish : Nat) : Int))], [.int (-1 - ((heard ^^^ wish : Nat) : Int)), N (heard ^^^ wish)]])
    (fun X h C => EvIter.tuple C (Ev.tuple C (EvArgs.cons (by walk_at "m.ev") (EvArgs.cons (Ev.callF C (fn 5) (EvArgs.cons (v := .int ((heard + 1 : Nat) : Int)) (by walk_at "m.ev") EvArgs.nil) f_neg (mem_of hW (by decide)) id5) EvArgs.nil)) (by simp))) (by walk_at "m.cap") (by walk_at "m.ok") (by walk_at "m.ok") rfl (v := .list [N (heard ^^^ wish), .int (-1 - ((heard ^^^ wish : Nat) : Int)), .int (-1 - ((heard ^^^ wish : Nat) : Int)), N (heard ^^^ wish)]) rfl (by simp) (fun i row out hrow hout => ?_) (by walk_at "m.erase") (by walk_at "m.off") ?_
  · have key : ∃ (a x1 x2 : Int), row = [.int a] ∧ out = [.int x1, .int x2] ∧ Builtin.bitXor a (wish : Int) = x1 ∧ Builtin.bitXor a (-((wish + 1 : Nat) : Int)) = x2 := by
      match i, hrow, hout with
      | 0, h1, h2 => cases h1; cases h2; exact ⟨_, _, _, rfl, rfl, bitXor_nat, s1⟩
      | 1, h1, h2 => cases h1; cases h2; exact ⟨_, _, _, rfl, rfl, s2, s3⟩
    obtain ⟨a, x1, x2, rfl, rfl, e1, e2⟩ := key
    refine ⟨[N wish, .int (-((wish + 1 : Nat) : Int))].map fun v => [v], [[.int x1], [.int x2]], rfl, rfl, by simp, fun X' env' h' C' => ?_, fun j row2 out2 h1 h2 X' env' h' C' => ?_⟩
    · have C'' : Cx W A (n + 3) X' env' h' _ [("one", .int a), ("wish", N wish)] := C'
      exact EvIter.tuple C'' (Ev.tuple C'' (EvArgs.cons (by walk_at "m.ev") (EvArgs.cons (Ev.callF C'' (fn 5) (EvArgs.cons (v := .int ((wish + 1 : Nat) : Int)) (by walk_at "m.ev") EvArgs.nil) f_neg (mem_of hW (by decide)) id5) EvArgs.nil)) (by simp))
    · have k2 : ∃ b x, row2 = [.int b] ∧ out2 = [.int x] ∧ Builtin.bitXor a b = x := by
        match j, h1, h2 with
        | 0, h1, h2 => cases h1; cases h2; exact ⟨_, _, rfl, rfl, e1⟩
        | 1, h1, h2 => cases h1; cases h2; exact ⟨_, _, rfl, rfl, e2⟩
      obtain ⟨b, x, rfl, rfl, e⟩ := k2
      have C'' : Cx W A (n + 3) X' env' h' _ [("other", .int b), ("one", .int a), ("wish", N wish)] := C'
      exact ⟨true, .int x, rfl, rfl, EvIfs.nil, fun _ => Ev.cast (Ev.callF C'' (fn 9) (EvArgs.cons (v := .int a) (by walk_at "m.ev") (EvArgs.cons (v := .int b) (by walk_at "m.ev") EvArgs.nil)) (f_xor fun _ => Op2.xor_int) (mem_of hW (by decide)) id9) (by rw [e])⟩
  refine Ex.compF2 (y1 := "lamp") (y2 := "row") (ρ₂ := [("apart", N (heard ^^^ wish))]) rows.zipIdx (fun p => N p.2) (fun p => N p.1) (fun p => N (p.1 ^^^ ((heard ^^^ wish) &&& (1 <<< p.2)))) (fun X h C => EvIter.rows (EvIter.enum C (l := rows.map N) (by walk_at "m.ev")) (by rw [List.zipIdx_map, List.map_map]; rfl)) (by walk_at "m.cap") (by walk_at "m.ok") (by rw [List.length_zipIdx]; omega) (fun q hq X' env' h' C' => ?_) (by walk_at "m.erase") (by walk_at "m.off") ?_
  · have hq2 : q.2 < 6 := by
      obtain ⟨q1, q2⟩ := q
      have := (List.mem_zipIdx hq).2.1
      simp at this
      omega
    refine Ev.callF C' (fn 9) (EvArgs.cons (by walk_at "m.ev") (EvArgs.cons (v := N ((heard ^^^ wish) &&& (1 <<< q.2))) (Ev.callF C' (fn 3) (EvArgs.cons (by walk_at "m.ev") (EvArgs.cons (v := N (1 <<< q.2)) (Ev.callF C' (fn 4) (by walk_at "m.args") (f_shl fun _ => Op2.shl_nat (by omega) (by decide)) (mem_of hW (by decide)) id4) EvArgs.nil)) (f_and fun _ => Op2.and_nat) (mem_of hW (by decide)) id3) EvArgs.nil)) (f_xor fun _ => Op2.xor_nat) (mem_of hW (by decide)) id9
  have hoth : PV.list (rows.zipIdx.map fun p => N (p.1 ^^^ ((heard ^^^ wish) &&& (1 <<< p.2)))) = Ns due := by
    rw [← G.a2]
    show PV.list _ = PV.list (List.map N _)
    rw [List.map_map]; rfl
  rw [hoth]
  refine Ex.ite (c := false) (fun X h C => EvB.cast (EvB.or (a := false) (b := false) ?c1 fun _ => EvB.or (a := false) (b := false) ?c2 fun _ => EvB.or (a := false) (b := false) ?c3 fun _ => EvB.orNil) rfl) (fun h => nomatch h) (fun _ => ⟨.next _ _, Ex.nil, Then.next (Ex.weak (ρ' := [("numbers", Ns R), ("rows", Ns rows), ("heard", N heard), ("wish", N wish), ("due", Ns due), ("made", Ns (madeS rows)), ("others", Ns due), ("drawn", Ns rows)]) (by walk_at "m.sub") (law5 hW h0 hR hr hd G.hsl G.hq G.hm G.r1 G.r1b G.r2 G.r3 G.ht G.hp G.q1 G.q2 G.q2b G.q3 G.q4))⟩)
  case c1 => exact EvB.cmp C (by walk_at "m.ev") (by walk_at "m.ev") (Op2.neL Sames.nats)
  case c2 =>
    exact EvB.cmp C (a := .list [N (heard ^^^ wish), .int (-1 - ((heard ^^^ wish : Nat) : Int)), .int (-1 - ((heard ^^^ wish : Nat) : Int)), N (heard ^^^ wish)]) (b := .list [N (heard ^^^ wish), .int (-1 - ((heard ^^^ wish : Nat) : Int)), .int (-1 - ((heard ^^^ wish : Nat) : Int)), N (heard ^^^ wish)]) (by walk_at "m.ev") (Ev.list C (EvArgs.cons (v := N (heard ^^^ wish)) (by walk_at "m.ev") (EvArgs.cons (Ev.bin C (Ev.una C Ev.nat Op1.neg) (by walk_at "m.ev") Op2.sub_int) (EvArgs.cons (Ev.bin C (Ev.una C Ev.nat Op1.neg) (by walk_at "m.ev") Op2.sub_int) (EvArgs.cons (v := N (heard ^^^ wish)) (by walk_at "m.ev") EvArgs.nil)))) (by simp)) (Op2.neL (Sames.ints (l := [((heard ^^^ wish : Nat) : Int), -1 - ((heard ^^^ wish : Nat) : Int), -1 - ((heard ^^^ wish : Nat) : Int), ((heard ^^^ wish : Nat) : Int)])))
  case c3 => exact EvB.cmp C (by walk_at "m.ev") (by walk_at "m.ev") (Op2.neL Sames.nats)
end
end
section
open PySem PySem.Calls PyProof.Rows PySem.SeqAt
theorem Ex.iteS {F : Fp} {ρ ow : List (Str × PV)} {r : R} {rest : List Stmt} {k : Nat} (hW : F.W.ds = fns) {P : Nat → Prop} (hP : ∀ t, P t → 0 < t ∧ t < F.W.lo) {nms : List Str} (hn : ∀ i : Nat, nms[i]? ≠ some "Q")
    (hfr : F.A.frames = some [F.env]) (hf : F.env.frame = some F.env.locals) (hY : F.Y F.env.locals) (hk : F.n = k + 2) {e1 : Expr} {x : Str} {p px pos p3 p4 p5 p6 : Pos} {kd : Nat} {b : List Stmt} (he : EB F (ρ ++ ow) e1 false)
    (hx : Look ρ x (.list (nms.map (.strP P)))) (hr : Ex F rest ρ ow r) (hl : F.names.lookup ("_law_stranger" : Str) = some .globalImplicit := by first | decide +kernel | (dsimp only; decide +kernel))
    (hs : starEach [.Name x px] F.env = [(false, eval (.Name x px) F.env)] := by rfl) (hd1 : (x == ("__debug__" : Str)) = false := by decide +kernel) (hd2 : (x == ("__classdict__" : Str)) = false := by decide +kernel) :
    Ex F (.If (.BoolOp .Or [e1, .Compare (.Call (.Name "_law_stranger" p) [.Name x px] [] pos) [.NotEq] [.Constant (.str noSeq) kd p3] p4] p5) b [] p6 :: rest) ρ ow r := .mk fun Z s as Q E S lo q => by
  refine wpAny_execs_cons (wpAny_If (isTrue_or (he F.Xc s.heap S.all s _ E (.refl lo) fun h₁ tk₁ k₁ => ?_)))
  simp only [Bool.false_eq_true, if_false]
  refine isTrue_or (wpAny_isTrue_Compare1 (ev_stranger hW hP hn hfr hf hY hk (S.mono k₁.le) k₁.lo hx hl hs hd1 hd2 fun h₂ tk₂ u lo₂ S₂ st₂ => Constant_str ?_) (by with_unfolding_all rfl))
  refine Op2.ne_str (W := F.W) (n := 0) (a := noSeq) (b := noSeq) F.A (fun _ => False) _ _ _ _ _ ⟨⟨S₂.room.less (Nat.zero_le _), S₂.base.mono S₂.le, fun a z => z.elim⟩, Nat.le_succ_of_le lo₂⟩ (.str _ _) (.str _ _) fun cv h₃ tk₃ k₃ r₃ => ?_
  obtain rfl := Rep.boolI r₃
  refine wpAny_truthy_bool ?_
  rw [show (noSeq != noSeq) = false from by simp]
  simp only [Bool.false_eq_true, if_false]
  refine isTrue_or_nil ?_
  simp only [Bool.false_eq_true, if_false]
  refine wpAny_execs_nil ?_
  exact hr.go Z _ as Q E (S₂.mono k₃.le) k₃.lo fun f h₄ tk₄ as₄ lo₄ ra st => q f h₄ tk₄ as₄ lo₄ ra (((Step.of_le k₁.le).trans (st₂.trans (Step.of_le k₃.le))).trans st)
end
section
open PySem PySem.Calls PyProof.Rows PySem.SeqAt
noncomputable abbrev ordS (ways : List Nat) : List Nat := ([5, 4, 3, 2, 1, 0].filter fun l => ways[l]! == 2) ++ ((List.range 6).filter fun l => ways[l]! != 2)
theorem ordS_lt {ways : List Nat} : ∀ l ∈ ordS ways, l < 6 := by
  intro l hl
  rcases List.mem_append.mp hl with h | h
  · have := (List.mem_filter.mp h).1
    simp at this
    omega
  · exact List.mem_range.mp (List.mem_filter.mp h).1
/-- what the law says about the header, behind its reading -/
structure Tab (rows : List Nat) (nms said : List Str) (ways : List Nat) (its : List (Str × Str)) : Prop where
  hn : nms.length = 6
  hsd : said.length = 6
  hwy : ways.length = 6
  hil : its.length ≤ 100
  hi : ∀ p ∈ its, 61 ∉ p.1.cps.toList ∧ 0 < p.2.length ∧ p.1.length + p.2.length ≤ 100000
  hq : ∀ i : Nat, nms[i]? ≠ some "Q"
  ht : keqS its = (ordS ways).map fun l => (sAt nms l, sAt said l)
  hl : ∀ p ∈ keqS its, p.1 ∈ nms ++ nms ∧ idx (nms ++ nms) p.1 < 6 ∧ p.2.cps.toList.length ≤ 900 ∧ ∀ c ∈ pParse p.2.cps.toList, c ∈ nms ++ nms ∧ idx (nms ++ nms) c < 6
  hread : readS (nms ++ nms) (keqS its) = rows
theorem ordS_len {ways : List Nat} : (ordS ways).length ≤ 12 := by
  rw [List.length_append]
  have h1 := List.length_filter_le (fun l => ways[l]! == 2) [5, 4, 3, 2, 1, 0]
  have h2 := List.length_filter_le (fun l => ways[l]! != 2) (List.range 6)
  simp only [List.length_cons, List.length_nil, List.length_range] at h1 h2
  omega

section
variable {W : Wd} {A : Around} {n : Nat} {Xc : AS} {env : Env} {Y : AS} {h₀ : Heap}
set_option maxRecDepth 100000
set_option maxHeartbeats 4000000 in
theorem law3 (hW : W.ds = fns) (h0 : 0 < W.lo) {P : Nat → Prop} (hP : ∀ t, P t → 0 < t ∧ t < W.lo) (hfr : A.frames = some [env]) (hf : env.frame = some env.locals) (hY : Y env.locals) {R rows due : List Nat} {heard wish : Nat} {nms said rd : List Str} {ways : List Nat} {its : List (Str × Str)} (hR : R.length = 10) (G : Alg rows due heard wish)
    (B : Tab rows nms said ways its) (hrd : rd = its.map fun p => p.1 ++ EQs ++ p.2) :
    Ex ⟨W, A, n + 3, Xc, env, Y, h₀, ns28⟩ ((fn 28).body.drop 10) [("numbers", Ns R), ("rows", Ns rows), ("heard", N heard), ("wish", N wish), ("due", Ns due), ("names", .list (nms.map (.strP P))), ("ways", Ns ways), ("said", Ss said), ("read", .list (rd.map (pvS W.lo)))] [] (.ret (.bool true)) := by
  have hwy := B.hwy
  have hnn := B.hn
  have hsd := B.hsd
  have hrl : PV.list (rd.map (pvS W.lo)) = .list (its.map fun p => pvS W.lo (p.1 ++ EQs ++ p.2)) := by rw [hrd, List.map_map]; rfl
  rw [hrl]
  refine Ex.assign (v := DictV W (keqS its)) (fun X h C => Ev.callF C (fn 15) (by walk_at "m.args") (f_keqv hW B.hil B.hi) (mem_of hW (by decide)) id15) (by walk_at "m.erase") (by walk_at "m.off") ?_
  refine Ex.assign (v := Ns (ordS ways)) (fun X h C => Ev.castL (Ev.bin C (Ev.compT (x := "lamp") (ρ' := [("ways", Ns ways)]) [5, 4, 3, 2, 1, 0] N N (fun l => ways[l]! == 2) C (EvIter.rows (EvIter.range3 C 6 Ev.int (Ev.una C Ev.int Op1.neg) (Ev.una C Ev.int Op1.neg)) (by rfl)) (by walk_at "m.cap") (by walk_at "m.ok") (by decide) fun l hl X' env' h' C' => ⟨?_, fun _ => by walk_at "m.ev"⟩)
    (Ev.compRT (ρ' := [("ways", Ns ways)]) N (fun l => ways[l]! != 2) C Ev.nat (by walk_at "m.cap") (by walk_at "m.ok") fun l hl X' env' h' C' => ⟨?_, fun _ => by walk_at "m.ev"⟩) (Op2.add_list ?_)) (by rw [← List.map_append])) (by walk_at "m.erase") (by walk_at "m.off") ?_
  · have hl6 : l < 6 := six_lt hl
    have g : ways[l]? = some ways[l]! := get! (by omega)
    exact EvB.cmp C' (by walk_at "m.ev") Ev.nat Op2.eq_nat
  · have g : ways[l]? = some ways[l]! := get! (by omega)
    exact EvB.cmp C' (by walk_at "m.ev") Ev.nat Op2.ne_nat
  · have := ordS_len (ways := ways)
    rw [List.length_append] at this
    rw [List.length_map, List.length_map]
    omega
  refine Ex.iteS (k := n + 1) hW hP B.hq hfr hf hY rfl (fun X h C => ?_) (by walk_at "m.look") (Ex.weak (ρ' := [("numbers", Ns R), ("rows", Ns rows), ("heard", N heard), ("wish", N wish), ("due", Ns due), ("table", DictV W (keqS its)), ("names", .list (nms.map (.strP P)))]) (by walk_at "m.sub") (law4 hW h0 hP hR G hnn B.hl B.hread))
  refine EvB.cmp C (a := .list ((ordS ways).map fun l => .tuple [.str (sAt nms l), .str (sAt said l)])) (b := .list ((ordS ways).map fun l => .tuple [.str (sAt nms l), .str (sAt said l)])) (Ev.castL (Ev.itemsList C (by walk_at "m.ev") ?_) ?_) (Ev.comp1 (x := "lamp") (ρ' := [("names", .list (nms.map (.strP P))), ("said", Ss said)]) (ordS ways) N _ C (EvIter.rows (EvIter.list C (l := (ordS ways).map N) (by walk_at "m.ev")) (by rw [List.map_map]; rfl)) (by walk_at "m.cap") (by walk_at "m.ok") (Nat.le_trans ordS_len (by decide)) fun l hl X' env' h' C' => ?_) (Op2.neL (Sames.of_map fun l hl => EqK.tuple ⟨rfl, fun i x y hx hy => ?_⟩ (by decide)))
  · rw [B.ht, List.length_map]; exact Nat.le_trans ordS_len (by decide)
  · rw [B.ht, List.map_map]; rfl
  · have hl6 := ordS_lt l hl
    refine Ev.tuple C' (EvArgs.cons (Ev.unP (P := P) (Ev.sub C' (by walk_at "m.ev") (by walk_at "m.ev") (Op2.sub_list (v := .strP P (sAt nms l)) ?_ (by omega)))) (EvArgs.cons (Ev.sub C' (by walk_at "m.ev") (by walk_at "m.ev") (Op2.sub_Ss (by omega) (by omega))) EvArgs.nil)) (by simp)
    rw [List.getElem?_map, sAt_is (by omega)]; rfl
  · rw [hx] at hy
    cases hy
    match i, hx with
    | 0, hx => cases hx; exact EqK.strS
    | 1, hx => cases hx; exact EqK.strS
end
end
section
open PySem PySem.Calls PyProof.Rows PySem.SeqAt
noncomputable abbrev cntS (R : List Nat) (l : Nat) : Nat := l + 6 * (R[4 + l]! % 10000)
noncomputable abbrev wayS (R : List Nat) (l : Nat) : Nat := R[4 + l]! / 20000 % 4
noncomputable def digS (c : Nat) : List Str := ([3, 2, 1, 0].filter fun p => decide (16 ^ p ≤ c)).map fun p => C1 (65 + c / 16 ^ p % 16)
noncomputable def nameS (c : Nat) : Str := Str.join ("" : Str) (digS c)
noncomputable def nmsS (R : List Nat) : List Str := ((List.range 6).map (cntS R)).map nameS
noncomputable def bytS (x : Str) : Array UInt8 := (x.cps.toList.map fun c => c.toUInt8).toArray
noncomputable abbrev wysS (R : List Nat) : List Nat := (List.range 6).map (wayS R)
noncomputable def wriS (R rows : List Nat) : List Str := writL (nmsS R) (listsS rows R[2]! 6) (wysS R) 6
noncomputable def iteS (R rows : List Nat) : List Str := itemL (nmsS R) (listsS rows R[2]! 6) (wysS R) 6
noncomputable def saiS (R rows : List Nat) : List Str := saidL (nmsS R) (listsS rows R[2]! 6) (wysS R) 6
noncomputable def hdS (R rows : List Nat) : Str := Str.join ("," : Str) (wriS R rows) ++ (if R[3]! / 1296 % 2 = 0 then ("" : Str) else ("," : Str))
structure Hd (R rows : List Nat) : Prop where
  H : HdrOk (nmsS R) (listsS rows R[2]! 6) (wysS R)
  told : ∀ l, l < 6 → ∃ k, k ≤ 100 ∧ (∀ i, i ≤ k → (cntS R l / 16 ^ i != 0) = decide (i < k)) ∧ apV (cntS R l) k = bytS (nameS (cntS R l))
  ch : ∀ y ∈ nmsS R, (∀ x ∈ y.cps.toList, x < 256) ∧ y.cps.toList.length ≤ 1000
  wl : ((wriS R rows).map (·.length)).sum + (wriS R rows).length * (("," : Str)).length ≤ 100000
  tl : (hdS R rows).cps.toList.length ≤ 900
  rd : pParse (hdS R rows).cps.toList = iteS R rows
  its : ∃ its : List (Str × Str), iteS R rows = its.map (fun p => p.1 ++ EQs ++ p.2) ∧ Tab rows (nmsS R) (saiS R rows) (wysS R) its

section
variable {W : Wd} {A : Around} {n : Nat} {X : AS} {env : Env} {h : Heap} {names : List (Str × NameKind)} {ρ : List (Str × PV)}
theorem abc : ∀ d : Fin 16, (seqIndex? ((d.val : Nat) : Int) ("ABCDEFGHIJKLMNOP" : Str).length).bind (("ABCDEFGHIJKLMNOP" : Str).cps[·]?) = some (65 + d.val) := by decide +kernel
theorem digS_flat (c : Nat) : ([3, 2, 1, 0].map fun p : Nat => if decide (16 ^ p ≤ c) = true then ([.str (C1 (65 + c / 16 ^ p % 16))] : List PV) else []).flatten = (digS c).map .str := by
  unfold digS
  generalize [3, 2, 1, 0] = l
  induction l with
  | nil => rfl
  | cons a l ih =>
    rw [List.map_cons, List.flatten_cons, ih, List.filter_cons]
    by_cases h : decide (16 ^ a ≤ c) = true
    · rw [if_pos h, if_pos h]; rfl
    · rw [if_neg h, if_neg h]; rfl
theorem Op2.pow16 {p : Nat} (hp : p ≤ 3) : Op2 W n (binaryOp .Pow) (N 16) (N p) (N (16 ^ p)) := by
  have := @Op2.pow_int W n 16 p (by omega) (by have : Builtin.Int.intBits 16 = 5 := by decide +kernel
                                               rw [this]; omega)
  show Op2 W n (binaryOp .Pow) (.int 16) (.int (p : Nat)) (.int ((16 ^ p : Nat) : Int))
  rw [Int.natCast_pow]
  exact this
end

section
variable {W : Wd} {A : Around} {n : Nat} {Xc : AS} {env : Env} {Y : AS} {h₀ : Heap}
set_option maxRecDepth 100000
set_option maxHeartbeats 4000000 in
theorem law2 (hW : W.ds = fns) (h0 : 0 < W.lo) {P : Nat → Prop} (hP : ∀ t, P t → 0 < t ∧ t < W.lo) (hfr : A.frames = some [env]) (hf : env.frame = some env.locals) (hY : Y env.locals) {R rows due : List Nat} {heard wish : Nat} (hR : R.length = 10) (G : Alg rows due heard wish) (B : Hd R rows) :
    Ex ⟨W, A, n + 3, Xc, env, Y, h₀, ns28⟩ ((fn 28).body.drop 5) [("numbers", Ns R), ("rows", Ns rows), ("heard", N heard), ("wish", N wish), ("due", Ns due), ("counts", Ns ((List.range 6).map (cntS R))), ("names", .list ((nmsS R).map (.strP P)))] [] (.ret (.bool true)) := by
  have hr := G.hr
  obtain ⟨its, hit, T⟩ := B.its
  refine Ex.compFR (ρ₂ := [("numbers", Ns R), ("counts", Ns ((List.range 6).map (cntS R)))]) (fun l => .bytes (bytS (nameS (cntS R l)))) (fun X h C => Ev.nat) (by walk_at "m.cap") (by walk_at "m.ok") (fun l hl X' env' h' C' => ?_) (by walk_at "m.erase") (by walk_at "m.off") ?_
  · obtain ⟨k, k1, k2, k3⟩ := B.told l hl
    have g1 : ((List.range 6).map (cntS R))[l]? = some (cntS R l) := rget hl
    have g2 : R[4 + l]? = some R[4 + l]! := get! (by omega)
    generalize cntS R l = c at *
    have hx : (1 - (((R[4 + l]! / 10000 % 2 * 2 : Nat)) : Int)).natAbs = 1 := by omega
    have ha : ((c : Int) * (1 - (((R[4 + l]! / 10000 % 2 * 2 : Nat)) : Int))).natAbs = c := by rw [Int.natAbs_mul, hx, Int.natAbs_natCast, Nat.mul_one]
    refine Ev.cast (Ev.callF C' (fn 14) (EvArgs.cons (v := .int ((c : Int) * (1 - (((R[4 + l]! / 10000 % 2 * 2 : Nat)) : Int)))) (Ev.bin C' (Ev.sub C' (by walk_at "m.ev") (by walk_at "m.ev") (Op2.sub_Ns g1 (by omega))) (Ev.bin C' Ev.int (b := N (R[4 + l]! / 10000 % 2 * 2)) (by walk_at "m.ev") Op2.sub_int) (Op2.mul_int (.inr (by omega)))) EvArgs.nil) (f_ap hW k1 (by rw [ha]; exact k2)) (mem_of hW (by decide)) id14) ?_
    rw [ha, k3]
  refine Ex.compC (v := Ns (wysS R)) (fun X h C => Ev.castL (Ev.compR (ρ' := [("numbers", Ns R)]) (fun l => N (wayS R l)) C Ev.nat (by walk_at "m.cap") (by walk_at "m.ok") fun l hl X' env' h' C' => ?_) rmap) (by walk_at "m.erase") (by walk_at "m.off") ?_
  · have g2 : R[4 + l]? = some R[4 + l]! := get! (by omega)
    walk_at "m.ev"
  have g2 : R[2]? = some R[2]! := get! (by omega)
  have g3 : R[3]? = some R[3]! := get! (by omega)
  have unp : ∀ {g : Heap} {X : AS} {cv : Value} {ys : List Str} {Q : Nat → Prop}, Rep X g cv (.list (ys.map (.strP Q))) → Rep X g cv (Ss ys) := by
    intro g X cv ys Q r
    obtain ⟨_, rfl, vs, _, na, ia, r2⟩ := Rep.listI r
    refine .list na ia ?_
    clear ia na r
    induction ys generalizing vs with
    | nil => cases r2; exact .nil
    | cons y ys ih => cases r2 with
      | cons a b => exact .cons a.unP (ih _ b)
  refine Ex.unpack3 (a := Ss (wriS R rows)) (b := Ss (iteS R rows)) (c := Ss (saiS R rows)) (.inl fun X h C => Ev.callF C (fn 20) (EvArgs.cons (v := Ss (nmsS R)) (Ev.weaken (v := .list ((nmsS R).map (.strP P))) (by walk_at "m.ev") fun _ _ => unp) (EvArgs.cons (Ev.callF C (fn 19) (EvArgs.cons (by walk_at "m.ev") (EvArgs.cons (v := N R[2]!) (Ev.sub C (by walk_at "m.ev") Ev.nat (Op2.sub_Ns g2 (by decide))) EvArgs.nil)) (f_lists hW hr) (mem_of hW (by decide)) id19) (EvArgs.cons (by walk_at "m.ev") EvArgs.nil))) (f_header hW B.H) (mem_of hW (by decide)) id20)
    (by walk_at "m.bind") (by walk_at "m.off") (by walk_at "m.off") (by walk_at "m.off") ?_
  have hjl : (Str.join ("," : Str) (wriS R rows)).length ≤ 900 := by
    have := B.tl
    unfold hdS at this
    have e : ∀ a b : Str, (a ++ b).cps.toList.length = a.length + b.length := fun a b => by
      show ((a.cps ++ b.cps).toList).length = a.cps.size + b.cps.size
      simp
    rw [e] at this
    omega
  refine Ex.assign (v := .list ((iteS R rows).map (pvS W.lo))) (fun X h C => Ev.castL (Ev.callF C (fn 16) (EvArgs.cons (v := .str (hdS R rows)) (Ev.bin C (Ev.meth C Ev.str (EvArgs.cons (v := Ss (wriS R rows)) (by walk_at "m.ev") EvArgs.nil) (Op.join B.wl) meth_join IsOf.str) (Ev.bin C Ev.str (b := N (R[3]! / 1296 % 2)) (by walk_at "m.ev") (Op2.mul_str01 (by omega))) (Op2.add_str ?_)) EvArgs.nil) (f_parse hW B.tl) (mem_of hW (by decide)) id16) (by rw [B.rd])) (by walk_at "m.erase") (by walk_at "m.off") ?_
  · have : (if R[3]! / 1296 % 2 = 0 then ("" : Str) else ("," : Str)).length ≤ 1 := by split <;> decide +kernel
    omega
  have hT : (nmsS R).map (fun y => PV.bytes (bytS y)) = (List.range 6).map fun l => .bytes (bytS (nameS (cntS R l))) := by unfold nmsS; rw [List.map_map, List.map_map]; rfl
  refine Ex.ite (c := false) (fun X h C => EvB.cast (EvB.or (a := false) (b := false) ?c1 fun _ => EvB.or (a := false) (b := false) ?c2 fun _ => EvB.orNil) rfl) (fun h => nomatch h) (fun _ => ⟨.next _ _, Ex.nil, Then.next (Ex.weak (ρ' := [("numbers", Ns R), ("rows", Ns rows), ("heard", N heard), ("wish", N wish), ("due", Ns due), ("names", .list ((nmsS R).map (.strP P))), ("ways", Ns (wysS R)), ("said", Ss (saiS R rows)), ("read", .list ((iteS R rows).map (pvS W.lo)))]) (by walk_at "m.sub") (law3 hW h0 hP hfr hf hY hR G T hit))⟩)
  case c1 =>
    refine EvB.cmp C (by walk_at "m.ev") (Ev.castL (Ev.comp1 (x := "name") (ρ' := []) (nmsS R) (.strP P) (fun y => .bytes (bytS y)) C (EvIter.rows (EvIter.list C (l := (nmsS R).map (.strP P)) (by walk_at "m.ev")) (by rw [List.map_map]; rfl)) (by walk_at "m.cap") (by walk_at "m.ok") (by unfold nmsS; simp) fun y hy X' env' h' C' => ?_) hT) (Op2.neL (Sames.of_map fun l hl => EqK.bytesS))
    obtain ⟨c1, c2⟩ := B.ch y hy
    refine Ev.callT C' (EvArgs.cons (v := Ns y.cps.toList) (Ev.comp1 (x := "sign") (ρ' := []) y.cps.toList (fun c => .str ⟨#[c]⟩) N C' (EvIter.str C' (Ev.unP (P := P) (by walk_at "m.ev"))) (by walk_at "m.cap") (by walk_at "m.ok") (by omega) fun c hc X'' env'' h'' C'' => ?_) EvArgs.nil) (Op.bytes c1 c2)
    exact Ev.callB C'' (by walk_at "m.args") Op.ord
  case c2 => exact EvB.cmp C (a := Ss (iteS R rows)) (Ev.weaken (v := .list ((iteS R rows).map (pvS W.lo))) (by walk_at "m.ev") fun _ _ => unp) (by walk_at "m.ev") (Op2.neL Sames.strs)
end
end
section
open PySem PySem.Calls PyProof.Rows PySem.SeqAt
/-- what the plain law has to give for a list of numbers -/
structure Plain (R : List Nat) : Prop where
  hR : R.length = 10
  G : Alg (netS R[0]! (R[1]! % 64)) (netS R[0]! (R[1]! / 64 % 64)) (R[1]! % 64) (R[1]! / 64 % 64)
  B : Hd R (netS R[0]! (R[1]! % 64))

section
variable {W : Wd} {A : Around} {n : Nat} {Xc : AS} {env : Env} {Y : AS} {h₀ : Heap}
set_option maxRecDepth 100000
set_option maxHeartbeats 4000000 in
theorem law1 (hW : W.ds = fns) (hfr : A.frames = some [env]) (hf : env.frame = some env.locals) (hY : Y env.locals) {ns : List Int} (hns : ns.length ≤ 100000) {R : List Nat} (hRR : R = numS ns 60) (PL : Plain R) :
    Ex ⟨W, A, n + 3, Xc, env, Y, h₀, ns28⟩ (fn 28).body [("script", .lst (ns.map .int))] [] (.ret (.bool true)) := by
  obtain ⟨hR, G, B⟩ := PL
  have g0 : R[0]? = some R[0]! := get! (by omega)
  have g1 : R[1]? = some R[1]! := get! (by omega)
  have kn : ∀ {x : Str}, ns28.lookup x ≠ some .local → env.scope.names = ns28 → env.kindOf x ≠ some .local := fun h hn => by unfold Env.kindOf; rw [hn]; exact h
  refine Ex.assign (v := Ns R) (fun X h C => Ev.cast (Ev.callF C (fn 17) (by walk_at "m.args") (f_numbers hW hns) (mem_of hW (by decide)) id17) (by rw [hRR])) (by walk_at "m.erase") (by walk_at "m.off") ?_
  refine Ex.unpack2 (a := N (R[1]! % 64)) (b := N (R[1]! / 64 % 64)) (.inl fun X h C => Ev.tuple C (EvArgs.cons (Ev.bin C (Ev.sub C (by walk_at "m.ev") Ev.nat (Op2.sub_Ns g1 (by decide))) Ev.nat (Op2.mod_nat (by decide))) (EvArgs.cons (Ev.bin C (Ev.bin C (Ev.sub C (by walk_at "m.ev") Ev.nat (Op2.sub_Ns g1 (by decide))) Ev.nat (Op2.fdiv_nat (by decide) (by decide))) Ev.nat (Op2.mod_nat (by decide))) EvArgs.nil)) (by simp)) (by walk_at "m.bind") (by walk_at "m.off") (by walk_at "m.off") ?_
    (hw := fun _ hn => swap_none2 (.inl (kn (by decide +kernel) hn)) rfl rfl)
  refine Ex.unpack2 (a := Ns (netS R[0]! (R[1]! % 64))) (b := Ns (netS R[0]! (R[1]! / 64 % 64))) (.inl fun X h C => Ev.tuple C (EvArgs.cons (Ev.callF C (fn 18) (EvArgs.cons (Ev.sub C (by walk_at "m.ev") Ev.nat (Op2.sub_Ns g0 (by decide))) (EvArgs.cons (by walk_at "m.ev") EvArgs.nil)) (f_net hW) (mem_of hW (by decide)) id18) (EvArgs.cons (Ev.callF C (fn 18) (EvArgs.cons (Ev.sub C (by walk_at "m.ev") Ev.nat (Op2.sub_Ns g0 (by decide))) (EvArgs.cons (by walk_at "m.ev") EvArgs.nil)) (f_net hW) (mem_of hW (by decide)) id18) EvArgs.nil)) (by simp)) (by walk_at "m.bind") (by walk_at "m.off") (by walk_at "m.off") ?_
    (hw := fun _ hn => swap_none2 (.inl (kn (by decide +kernel) hn)) rfl rfl)
  refine Ex.compC (v := Ns ((List.range 6).map (cntS R))) (fun X h C => Ev.castL (Ev.compR (ρ' := [("numbers", Ns R)]) (fun l => N (cntS R l)) C Ev.nat (by walk_at "m.cap") (by walk_at "m.ok") fun l hl X' env' h' C' => ?_) rmap) (by walk_at "m.erase") (by walk_at "m.off") ?_
  · have g2 : R[4 + l]? = some R[4 + l]! := get! (by omega)
    walk_at "m.ev"
  have hout : ((((List.range 6).map (cntS R)).map fun c => ([.str (nameS c)] : List PV)).flatten) = (nmsS R).map .str := by
    unfold nmsS
    generalize (List.range 6).map (cntS R) = l
    induction l with
    | nil => rfl
    | cons a l ih => rw [List.map_cons, List.flatten_cons, ih]; rfl
  refine Ex.relo (l := nmsS R) (fun X h C => ?_) (by walk_at "m.erase") (by walk_at "m.off") (by unfold nmsS; simp) fun T hT hT0 => ?_
  · rw [← hout]
    refine EvNK.comp (xs := ["count"]) (ρ' := []) C (EvIter.list C (l := ((List.range 6).map (cntS R)).map N) (by walk_at "m.ev")) (by walk_at "m.cap") (by walk_at "m.ok") (by simp) (by rw [hout]; unfold nmsS; simp) fun i row out hrow ho X' env' h' C' => ?_
    rw [List.map_map] at hrow
    obtain ⟨c, hc, rfl, rfl⟩ := get_map2 hrow ho
    refine ⟨true, .str (nameS c), rfl, EvIfs.nil, fun _ => ?_⟩
    have C1' : Cx W A (n + 3) X' env' h' _ [("count", N c)] := C'
    refine EvK.join C1' (ys := digS c) ?_ ?_
    · rw [← digS_flat]
      refine EvNK.comp (xs := ["place"]) (ρ' := [("count", N c)]) C1' (EvIter.tuple C1' (Ev.tuple C1' (vs := [N 3, N 2, N 1, N 0]) (by walk_at "m.args") (by simp))) (by walk_at "m.cap") (by walk_at "m.ok") (by simp) (by rw [digS_flat, List.length_map]; unfold digS; rw [List.length_map]; exact Nat.le_trans (List.length_filter_le ..) (by decide)) fun i row out hrow ho X'' env'' h'' C'' => ?_
      have hrow' : ([3, 2, 1, 0].map fun p : Nat => ([N p] : List PV))[i]? = some row := hrow
      obtain ⟨p, hp, rfl, rfl⟩ := get_map2 hrow' ho
      have hp3 : p ≤ 3 := (by decide : ∀ m ∈ [3, 2, 1, 0], m ≤ 3) p (List.mem_of_getElem? hp)
      have C2 : Cx W A (n + 3) X'' env'' h'' _ [("place", N p), ("count", N c)] := C''
      refine ⟨decide (16 ^ p ≤ c), .str (C1 (65 + c / 16 ^ p % 16)), rfl, EvIfs.one (EvB.cast (EvB.cmp C2 (by walk_at "m.ev") (Ev.bin C2 Ev.nat (by walk_at "m.ev") (Op2.pow16 hp3)) Op2.ge_int) ?_), fun _ => EvK.idx C2 (i := ((c / 16 ^ p % 16 : Nat) : Int)) (Ev.bin C2 (Ev.bin C2 (by walk_at "m.ev") (Ev.bin C2 Ev.nat (by walk_at "m.ev") (Op2.pow16 hp3)) (Op2.fdiv_nat (Nat.pow_pos (by decide)) (Nat.lt_of_le_of_lt (Nat.pow_le_pow_right (by decide) hp3) (by decide)))) Ev.nat (Op2.mod_nat (by decide))) ?_ (abc ⟨c / 16 ^ p % 16, Nat.mod_lt _ (by decide)⟩)⟩
      · rw [decide_eq_decide]
        exact Int.ofNat_le
      · have := Nat.mod_lt (c / 16 ^ p) (show 16 > 0 by decide)
        rw [decide_eq_false (by omega), decide_eq_false (by omega)]; rfl
    · have hlen : (digS c).length ≤ 4 := by
        unfold digS
        rw [List.length_map]
        exact Nat.le_trans (List.length_filter_le ..) (by decide)
      have hsum : ∀ l : List Str, (∀ y ∈ l, y.length = 1) → (l.map (·.length)).sum = l.length := by
        intro l
        induction l with
        | nil => intro _; rfl
        | cons a l ih => intro h; rw [List.map_cons, List.sum_cons, ih fun y hy => h y (.tail _ hy), h a (.head _), List.length_cons]; omega
      rw [hsum (digS c) fun y hy => by unfold digS at hy; obtain ⟨p, _, rfl⟩ := List.mem_map.mp hy; rfl, show ("" : Str).length = 0 from rfl]
      omega
  · exact Ex.weak (ρ' := [("numbers", Ns R), ("rows", Ns (netS R[0]! (R[1]! % 64))), ("heard", N (R[1]! % 64)), ("wish", N (R[1]! / 64 % 64)), ("due", Ns (netS R[0]! (R[1]! / 64 % 64))), ("counts", Ns ((List.range 6).map (cntS R))), ("names", .list ((nmsS R).map (.strP fun t => 0 < t ∧ t < T)))]) (by walk_at "m.sub") (law2 (W := { W with lo := T }) hW hT0 (fun t h => h) hfr hf hY hR G B)
end
end
section
open PySem
/-! xor -/
theorem xx (a b : Nat) : a ^^^ (a ^^^ b) = b := by rw [← Nat.xor_assoc, Nat.xor_self, Nat.zero_xor]
theorem xswap (a b c : Nat) : a ^^^ (b ^^^ c) = b ^^^ (a ^^^ c) := by rw [← Nat.xor_assoc, Nat.xor_comm a b, Nat.xor_assoc]

/-- the sums of some of a list's items -/
inductive Sp : List Nat → Nat → Prop
  | nil : Sp [] 0
  | skip {a : Nat} {l : List Nat} {v : Nat} : Sp l v → Sp (a :: l) v
  | take {a : Nat} {l : List Nat} {v : Nat} : Sp l v → Sp (a :: l) (a ^^^ v)
theorem Sp.zero : ∀ l, Sp l 0
  | [] => .nil
  | _ :: l => .skip (Sp.zero l)
theorem Sp.xor {l : List Nat} {v w : Nat} (a : Sp l v) (b : Sp l w) : Sp l (v ^^^ w) := by
  induction a generalizing w with
  | nil => cases b; exact .nil
  | skip a ih => cases b with
    | skip b => exact .skip (ih b)
    | take b => rw [xswap]; exact .take (ih b)
  | take a ih => cases b with
    | skip b => rw [Nat.xor_assoc]; exact .take (ih b)
    | @take _ _ w b => rw [Nat.xor_assoc, xswap _, xx]; exact .skip (ih b)
theorem Sp.mem : ∀ {l : List Nat} {a : Nat}, a ∈ l → Sp l a
  | _ :: l, _, .head _ => by
    have := Sp.take (a := ‹_›) (Sp.zero l)
    rwa [Nat.xor_zero] at this
  | _ :: _, _, .tail _ h => .skip (Sp.mem h)
theorem Sp.left {l' : List Nat} {l : List Nat} {v : Nat} (a : Sp l v) : Sp (l ++ l') v := by
  induction a with
  | nil => exact Sp.zero _
  | skip _ ih => exact .skip ih
  | take _ ih => exact .take ih
/-- what is closed under sums holds them -/
theorem Sp.closed {P : Nat → Prop} (h0 : P 0) (hx : ∀ a b, P a → P b → P (a ^^^ b)) {l : List Nat} {v : Nat} (a : Sp l v) (h : ∀ a ∈ l, P a) : P v := by
  induction a with
  | nil => exact h0
  | skip _ ih => exact ih fun b hb => h b (.tail _ hb)
  | take _ ih => exact hx _ _ (h _ (.head _)) (ih fun b hb => h b (.tail _ hb))

theorem mem_made_gen : ∀ (rows m : List Nat) (v : Nat), v ∈ rows.foldl (fun m r => m ++ m.map (· ^^^ r)) m ↔ ∃ a ∈ m, ∃ s, Sp rows s ∧ v = a ^^^ s
  | [], m, v => ⟨fun h => ⟨v, h, 0, .nil, (Nat.xor_zero v).symm⟩, fun ⟨a, ha, s, hs, e⟩ => by cases hs; rw [e, Nat.xor_zero]; exact ha⟩
  | r :: rows, m, v => by
    rw [List.foldl_cons, mem_made_gen rows]
    constructor
    · rintro ⟨a, ha, s, hs, rfl⟩
      rcases List.mem_append.mp ha with h | h
      · exact ⟨a, h, s, .skip hs, rfl⟩
      · obtain ⟨b, hb, rfl⟩ := List.mem_map.mp h
        exact ⟨b, hb, r ^^^ s, .take hs, Nat.xor_assoc ..⟩
    · rintro ⟨a, ha, s, hs, rfl⟩
      cases hs with
      | skip hs => exact ⟨a, List.mem_append_left _ ha, s, hs, rfl⟩
      | @take _ _ w hs => exact ⟨a ^^^ r, List.mem_append_right _ (List.mem_map.mpr ⟨a, ha, rfl⟩), w, hs, (Nat.xor_assoc ..).symm⟩
theorem mem_made {rows : List Nat} {v : Nat} : v ∈ madeS rows ↔ Sp rows v := by
  unfold madeS
  rw [mem_made_gen]
  constructor
  · rintro ⟨a, ha, s, hs, rfl⟩
    rw [List.mem_singleton.mp ha, Nat.zero_xor]
    exact hs
  · intro h
    exact ⟨0, .head _, v, h, (Nat.zero_xor v).symm⟩

/-! bits -/
theorem and_pow {r t : Nat} : (r &&& 2 ^ t ≠ 0) ↔ r.testBit t = true := by
  constructor
  · intro h
    cases e : r.testBit t with
    | true => rfl
    | false =>
      refine absurd (Nat.eq_of_testBit_eq fun i => ?_) h
      rw [Nat.testBit_and, Nat.testBit_two_pow, Nat.zero_testBit]
      by_cases hi : t = i
      · rw [← hi, e]; rfl
      · rw [decide_eq_false hi, Bool.and_false]
  · intro h e
    have := congrArg (·.testBit t) e
    simp only [Nat.testBit_and, Nat.testBit_two_pow, Nat.zero_testBit, h, decide_true, Bool.and_true] at this
    cases this
theorem red_cons (r : Nat) (p : Nat × Nat) (st : List (Nat × Nat)) : redS r (p :: st) = redS (if r &&& p.1 ≠ 0 then r ^^^ p.2 else r) st := rfl
theorem red_snoc (r : Nat) (st st' : List (Nat × Nat)) : redS r (st ++ st') = redS (redS r st) st' := by unfold redS; rw [List.foldl_append]
theorem red_span : ∀ (st : List (Nat × Nat)) (r : Nat), ∃ s, Sp (st.map (·.2)) s ∧ redS r st = r ^^^ s
  | [], r => ⟨0, .nil, (Nat.xor_zero r).symm⟩
  | p :: st, r => by
    rw [red_cons]
    obtain ⟨s, hs, e⟩ := red_span st (if r &&& p.1 ≠ 0 then r ^^^ p.2 else r)
    rw [e]
    split
    · exact ⟨p.2 ^^^ s, .take hs, Nat.xor_assoc ..⟩
    · exact ⟨s, .skip hs, rfl⟩

/-- stairs: every pivot is one bit, its base has it, later bases have it not -/
inductive Stair : List (Nat × Nat) → Prop
  | nil : Stair []
  | cons {t b : Nat} {st : List (Nat × Nat)} : t < 6 → b.testBit t = true → (∀ p ∈ st, p.2.testBit t = false) → Stair st → Stair ((2 ^ t, b) :: st)
/-- no pivot's bit is there -/
noncomputable def PZ (st : List (Nat × Nat)) (v : Nat) : Prop := ∀ p ∈ st, v &&& p.1 = 0
theorem pz_bit {v t : Nat} : v &&& 2 ^ t = 0 ↔ v.testBit t = false := by
  have := and_pow (r := v) (t := t)
  cases h : v.testBit t <;> simp_all
theorem span_bit {t : Nat} {l : List Nat} {s : Nat} (h : Sp l s) (hl : ∀ a ∈ l, a.testBit t = false) : s.testBit t = false :=
  Sp.closed (P := fun v => v.testBit t = false) (Nat.zero_testBit t) (fun a b ha hb => by rw [Nat.testBit_xor, ha, hb]; rfl) h hl
theorem red_pz : ∀ {st : List (Nat × Nat)}, Stair st → ∀ r, PZ st (redS r st)
  | _, .nil, r => fun p hp => nomatch hp
  | _, .cons (t := t) (b := b) (st := st) h6 hb hl hst, r => by
    rw [red_cons]
    intro p hp
    rcases List.mem_cons.mp hp with rfl | hp
    · obtain ⟨s, hs, e⟩ := red_span st (if r &&& 2 ^ t ≠ 0 then r ^^^ b else r)
      rw [e, pz_bit, Nat.testBit_xor, span_bit hs (fun a ha => by obtain ⟨q, hq, rfl⟩ := List.mem_map.mp ha; exact hl q hq), Bool.xor_false]
      by_cases h : r &&& 2 ^ t ≠ 0
      · rw [if_pos h, Nat.testBit_xor, and_pow.mp h, hb]; rfl
      · rw [if_neg h]
        rw [and_pow] at h
        simpa using h
    · exact red_pz hst _ p hp
theorem pz_span : ∀ {st : List (Nat × Nat)}, Stair st → ∀ {v}, Sp (st.map (·.2)) v → PZ st v → v = 0
  | _, .nil, v, hv, _ => by cases hv; rfl
  | _, .cons (t := t) (b := b) (st := st) h6 hb hl hst, v, hv, hz => by
    have hz0 := pz_bit.mp (hz _ (.head _))
    have hs : ∀ w, Sp (st.map (·.2)) w → w.testBit t = false := fun w hw => span_bit hw fun a ha => by obtain ⟨q, hq, rfl⟩ := List.mem_map.mp ha; exact hl q hq
    cases hv with
    | skip hv => exact pz_span hst hv fun p hp => hz p (.tail _ hp)
    | @take _ _ w hv =>
      rw [Nat.testBit_xor, hb, hs w hv] at hz0
      cases hz0
theorem stair_snoc : ∀ {st : List (Nat × Nat)} {t b : Nat}, Stair st → t < 6 → b.testBit t = true → PZ st b → Stair (st ++ [(2 ^ t, b)])
  | _, t, b, .nil, h6, hb, _ => .cons h6 hb (fun p hp => nomatch hp) .nil
  | _, t, b, .cons (t := t') (b := b') (st := st) h6' hb' hl hst, h6, hb, hz => by
    refine .cons h6' hb' (fun p hp => ?_) (stair_snoc hst h6 hb fun p hp => hz p (.tail _ hp))
    rcases List.mem_append.mp hp with h | h
    · exact hl p h
    · rw [List.mem_singleton.mp h]
      exact pz_bit.mp (hz _ (.head _))
/-- the reduction is linear -/
theorem red_xor : ∀ {st : List (Nat × Nat)}, Stair st → ∀ a b, redS (a ^^^ b) st = redS a st ^^^ redS b st
  | _, .nil, a, b => rfl
  | _, .cons (t := t) (b := c) (st := st) h6 hb hl hst, x, y => by
    rw [red_cons, red_cons, red_cons, ← red_xor hst]
    congr 1
    simp only [and_pow, Nat.testBit_xor]
    cases x.testBit t <;> cases y.testBit t
    · simp
    · simp [Nat.xor_assoc]
    · simp only [Bool.xor_false, if_true, Bool.false_eq_true, if_false]
      rw [Nat.xor_assoc, Nat.xor_assoc, Nat.xor_comm y c]
    · simp only [Bool.xor_self, Bool.false_eq_true, if_false, if_true]
      rw [Nat.xor_assoc, xswap c, Nat.xor_self, Nat.xor_zero]
end
section
open PySem
/-- what the presses c bring about, by the first k rows -/
noncomputable def gK (rows : List Nat) (c : Nat) : Nat → Nat
  | 0 => 0
  | k + 1 => (if c.testBit k then rows[k]! else 0) ^^^ gK rows c k
noncomputable def G (rows : List Nat) (c : Nat) : Nat := gK rows c 6 ^^^ (c <<< 6)
noncomputable def Rows (rows : List Nat) : Prop := rows.length = 6 ∧ ∀ i, i < 6 → rows[i]! < 64
section
variable {rows : List Nat}
theorem gK_xor (c d : Nat) : ∀ k, gK rows (c ^^^ d) k = gK rows c k ^^^ gK rows d k
  | 0 => by simp [gK]
  | k + 1 => by
    rw [gK, gK, gK, gK_xor c d k, Nat.testBit_xor]
    cases c.testBit k <;> cases d.testBit k
    · simp
    · simp only [Bool.false_xor, if_true, Bool.false_eq_true, if_false, Nat.zero_xor]; rw [xswap]
    · simp only [Bool.xor_false, if_true, Bool.false_eq_true, if_false, Nat.zero_xor]; rw [Nat.xor_assoc]
    · simp only [Bool.xor_self, Bool.false_eq_true, if_false, if_true, Nat.zero_xor]; rw [Nat.xor_assoc, xswap (gK rows c k), xx]
theorem gK_congr {c d : Nat} : ∀ k, (∀ i, i < k → c.testBit i = d.testBit i) → gK rows c k = gK rows d k
  | 0, _ => rfl
  | k + 1, h => by rw [gK, gK, gK_congr k (fun i hi => h i (by omega)), h k (by omega)]
theorem gK_zero : ∀ k, gK rows 0 k = 0
  | 0 => rfl
  | k + 1 => by rw [gK, gK_zero k, Nat.zero_testBit]; simp
theorem gK_up {c k : Nat} (hc : c < 2 ^ k) : ∀ j, gK rows c (k + j) = gK rows c k
  | 0 => rfl
  | j + 1 => by
    rw [← Nat.add_assoc, gK, gK_up hc j, Nat.testBit_lt_two_pow (Nat.lt_of_lt_of_le hc (Nat.pow_le_pow_right (by decide) (Nat.le_add_right k j)))]
    simp
theorem gK_six {c k : Nat} (hc : c < 2 ^ k) (hk : k ≤ 6) : gK rows c 6 = gK rows c k := by
  have := gK_up (rows := rows) hc (6 - k)
  rwa [show k + (6 - k) = 6 by omega] at this
theorem gK_lt (h : Rows rows) (c : Nat) : ∀ k, k ≤ 6 → gK rows c k < 64
  | 0, _ => by rw [gK]; decide
  | k + 1, hk => by
    rw [gK]
    have h1 := gK_lt h c k (by omega)
    have h2 := h.2 k (by omega)
    have : ∀ a b : Nat, a < 2 ^ 6 → b < 2 ^ 6 → a ^^^ b < 2 ^ 6 := fun a b => Nat.xor_lt_two_pow
    split
    · exact this _ _ h2 h1
    · rw [Nat.zero_xor]; exact h1
theorem gK_pow {k : Nat} (hk : k < 6) : gK rows (2 ^ k) 6 = rows[k]! := by
  rw [gK_six (k := k + 1) (Nat.pow_lt_pow_right (by decide) (by omega)) (by omega), gK, Nat.testBit_two_pow_self, if_pos rfl]
  rw [gK_congr (d := 0) k fun i hi => by rw [Nat.testBit_two_pow, Nat.zero_testBit, decide_eq_false (by omega)], gK_zero, Nat.xor_zero]
theorem G_xor (c d : Nat) : G rows (c ^^^ d) = G rows c ^^^ G rows d := by
  unfold G
  rw [gK_xor, Nat.shiftLeft_xor_distrib, Nat.xor_assoc, Nat.xor_assoc, xswap (gK rows d 6)]
theorem G_zero : G rows 0 = 0 := by unfold G; rw [gK_zero]; rfl
theorem G_bit (h : Rows rows) (c i : Nat) (hi : i < 6) : (G rows c).testBit i = (gK rows c 6).testBit i := by
  unfold G
  rw [Nat.testBit_xor, Nat.testBit_shiftLeft, decide_eq_false (by omega)]
  simp
theorem low_bit (v i : Nat) : (v &&& 63).testBit i = (v.testBit i && decide (i < 6)) := by
  rw [Nat.testBit_and, show (63 : Nat) = 2 ^ 6 - 1 from rfl, Nat.testBit_two_pow_sub_one]
theorem big_bit {v i : Nat} (h : v < 64) (hi : ¬ i < 6) : v.testBit i = false := Nat.testBit_lt_two_pow (Nat.lt_of_lt_of_le (show v < 2 ^ 6 from h) (Nat.pow_le_pow_right (by decide) (by omega)))
theorem G_low (h : Rows rows) (c : Nat) : G rows c &&& 63 = gK rows c 6 := by
  refine Nat.eq_of_testBit_eq fun i => ?_
  rw [low_bit]
  by_cases hi : i < 6
  · rw [G_bit h c i hi, decide_eq_true hi, Bool.and_true]
  · rw [decide_eq_false hi, Bool.and_false, big_bit (gK_lt h c 6 (by omega)) hi]
theorem G_high (h : Rows rows) (c : Nat) : G rows c >>> 6 = c := by
  refine Nat.eq_of_testBit_eq fun i => ?_
  unfold G
  rw [Nat.testBit_shiftRight, Nat.testBit_xor, Nat.testBit_shiftLeft, big_bit (gK_lt h c 6 (by omega)) (by omega), decide_eq_true (by omega), Bool.false_xor, Bool.true_and]
  congr 1
  omega
theorem shift_low (q : Nat) : q <<< 6 &&& 63 = 0 := by
  refine Nat.eq_of_testBit_eq fun i => ?_
  rw [low_bit, Nat.testBit_shiftLeft, Nat.zero_testBit]
  by_cases hi : i < 6
  · rw [decide_eq_false (by omega)]; simp
  · rw [decide_eq_false hi, Bool.and_false]
theorem G_ker (c : Nat) (hc : gK rows c 6 = 0) : G rows c = c <<< 6 := by unfold G; rw [hc, Nat.zero_xor]

/-- the made list, place by place -/
theorem made_at (h : rows.length = 6) : ∀ i, i ≤ 6 → ∀ s, s < 2 ^ i → (madeS (rows.take i))[s]? = some (gK rows s i)
  | 0, _, s, hs => by
    have : s = 0 := by simp at hs; omega
    subst this
    rw [List.take_zero]
    rfl
  | i + 1, hi, s, hs => by
    have ih := made_at h i (by omega)
    have hl : (madeS (rows.take i)).length = 2 ^ i := by rw [madeS_len, List.length_take, h, Nat.min_eq_left (by omega)]
    rw [madeS_take (get! (by omega))]
    by_cases hlt : s < 2 ^ i
    · rw [List.getElem?_append_left (by rw [hl]; exact hlt), ih s hlt, gK, Nat.testBit_lt_two_pow hlt]
      simp
    · rw [List.getElem?_append_right (by rw [hl]; omega), hl, List.getElem?_map, ih (s - 2 ^ i) (by rw [Nat.pow_succ] at hs; omega), Option.map_some, gK]
      have e : s = 2 ^ i + (s - 2 ^ i) := by omega
      generalize hr : s - 2 ^ i = r at *
      have hr2 : r < 2 ^ i := by rw [Nat.pow_succ] at hs; omega
      have hbit : s.testBit i = true := by rw [e, Nat.testBit_two_pow_add_eq, Nat.testBit_lt_two_pow hr2]; rfl
      rw [hbit, if_pos rfl, Nat.xor_comm]
      congr 2
      refine gK_congr i fun j hj => ?_
      rw [e, Nat.testBit_two_pow_add_gt hj]
theorem made_six (h : rows.length = 6) {s : Nat} (hs : s < 64) : (madeS rows)[s]? = some (gK rows s 6) := by
  have := made_at h 6 (Nat.le_refl _) s hs
  rwa [List.take_of_length_le (by omega)] at this
theorem made_len (h : rows.length = 6) : (madeS rows).length = 64 := by rw [madeS_len, h]
theorem mem_made_six (h : rows.length = 6) {v : Nat} : v ∈ madeS rows ↔ ∃ c, c < 64 ∧ gK rows c 6 = v := by
  constructor
  · intro hv
    obtain ⟨s, hs⟩ := List.mem_iff_getElem?.mp hv
    have hlt : s < 64 := by
      have := (List.getElem?_eq_some_iff.mp hs).1
      rwa [made_len h] at this
    rw [made_six h hlt] at hs
    exact ⟨s, hlt, Option.some.inj hs⟩
  · rintro ⟨c, hc, rfl⟩
    exact List.mem_of_getElem? (made_six h hc)
end
end
section
open PySem
structure Inv (rows : List Nat) (k : Nat) (st : List (Nat × Nat)) (qu : List Nat) : Prop where
  stair : Stair st
  base : ∀ p ∈ st, ∃ c, c < 2 ^ k ∧ p.2 = G rows c
  ker : ∀ q ∈ qu, q < 2 ^ k ∧ gK rows q 6 = 0
  span : ∀ c, c < 2 ^ k → ∃ s q, Sp (st.map (·.2)) s ∧ Sp qu q ∧ G rows c = s ^^^ (q <<< 6)
  nodup : (madeS qu).Nodup
  len : st.length + qu.length = k

theorem lowb_fin : ∀ k : Fin 64, k.val ≠ 0 → (List.range 6).any (fun t => lowb k.val == 2 ^ t && k.val.testBit t) = true := by decide +kernel
theorem lowb_pow {k : Nat} (h : k < 64) (h0 : k ≠ 0) : ∃ t, t < 6 ∧ lowb k = 2 ^ t ∧ k.testBit t = true := by
  have := lowb_fin ⟨k, h⟩ h0
  rw [List.any_eq_true] at this
  obtain ⟨t, ht, e⟩ := this
  rw [Bool.and_eq_true, beq_iff_eq] at e
  exact ⟨t, List.mem_range.mp ht, e.1, e.2⟩

section
variable {rows : List Nat}
theorem row_G (h : Rows rows) {k : Nat} (hk : k < 6) : rows[k]! ||| (1 <<< (k + 6)) = G rows (2 ^ k) := by
  refine Nat.eq_of_testBit_eq fun i => ?_
  unfold G
  rw [gK_pow hk, Nat.testBit_or, Nat.testBit_xor, Nat.shiftLeft_eq, Nat.one_mul, Nat.shiftLeft_eq, ← Nat.pow_add, Nat.testBit_two_pow]
  by_cases hi : k + 6 = i
  · rw [decide_eq_true hi, big_bit (h.2 k hk) (by omega)]; rfl
  · rw [decide_eq_false hi]; simp
theorem span_G {st : List (Nat × Nat)} {k : Nat} (hb : ∀ p ∈ st, ∃ c, c < 2 ^ k ∧ p.2 = G rows c) {s : Nat} (hs : Sp (st.map (·.2)) s) : ∃ d, d < 2 ^ k ∧ s = G rows d :=
  Sp.closed (P := fun v => ∃ d, d < 2 ^ k ∧ v = G rows d) ⟨0, Nat.pow_pos (by decide), G_zero.symm⟩ (fun a b ⟨c, hc, e⟩ ⟨d, hd, e'⟩ => ⟨c ^^^ d, Nat.xor_lt_two_pow hc hd, by rw [G_xor, e, e']⟩) hs
    fun a ha => by obtain ⟨p, hp, rfl⟩ := List.mem_map.mp ha; exact hb p hp
theorem span_ker {qu : List Nat} {k : Nat} (hq : ∀ q ∈ qu, q < 2 ^ k ∧ gK rows q 6 = 0) {v : Nat} (hv : Sp qu v) : v < 2 ^ k ∧ gK rows v 6 = 0 :=
  Sp.closed (P := fun v => v < 2 ^ k ∧ gK rows v 6 = 0) ⟨Nat.pow_pos (by decide), gK_zero 6⟩ (fun a b ⟨h1, h2⟩ ⟨h3, h4⟩ => ⟨Nat.xor_lt_two_pow h1 h3, by rw [gK_xor, h2, h4]; rfl⟩) hv hq

theorem made_snoc (qu : List Nat) (q : Nat) : madeS (qu ++ [q]) = madeS qu ++ (madeS qu).map (· ^^^ q) := by unfold madeS; rw [List.foldl_append]; rfl
theorem nodup_snoc {qu : List Nat} {k c : Nat} (hn : (madeS qu).Nodup) (hlt : ∀ v ∈ madeS qu, v < 2 ^ k) (hc : c.testBit k = true) : (madeS (qu ++ [c])).Nodup := by
  rw [made_snoc]
  refine List.nodup_append.mpr ⟨hn, ?_, ?_⟩
  · refine List.pairwise_map.mpr (hn.imp fun {a b} hab e => hab ?_)
    have := congrArg (· ^^^ c) e
    simpa [Nat.xor_assoc] using this
  · intro a ha b hb e
    obtain ⟨v, hv, rfl⟩ := List.mem_map.mp hb
    have h1 := Nat.testBit_lt_two_pow (hlt a ha)
    rw [e, Nat.testBit_xor, Nat.testBit_lt_two_pow (hlt v hv), hc] at h1
    cases h1

theorem inv_step (h : Rows rows) {k : Nat} (hk : k < 6) {st : List (Nat × Nat)} {qu : List Nat} (I : Inv rows k st qu) : Inv rows (k + 1) (stStep rows (st, qu) k).1 (stStep rows (st, qu) k).2 := by
  obtain ⟨i1, i2, i3, i4, i5, i6⟩ := I
  obtain ⟨s, hs, e⟩ := red_span st (rows[k]! ||| (1 <<< (k + 6)))
  obtain ⟨d, hd, rfl⟩ := span_G i2 hs
  rw [row_G h hk, ← G_xor] at e
  have hz := red_pz i1 (rows[k]! ||| (1 <<< (k + 6)))
  unfold stStep
  dsimp only
  rw [row_G h hk] at hz ⊢
  rw [e] at hz ⊢
  have hcb : (2 ^ k ^^^ d).testBit k = true := by rw [Nat.testBit_xor, Nat.testBit_two_pow_self, Nat.testBit_lt_two_pow hd]; rfl
  have hp1 : 2 ^ k < 2 ^ (k + 1) := Nat.pow_lt_pow_right (by decide) (Nat.lt_succ_self k)
  have hcl : 2 ^ k ^^^ d < 2 ^ (k + 1) := Nat.xor_lt_two_pow hp1 (Nat.lt_trans hd hp1)
  have hGd : G rows (2 ^ k) = G rows (2 ^ k ^^^ d) ^^^ G rows d := by rw [G_xor, Nat.xor_assoc, Nat.xor_self, Nat.xor_zero]
  -- a press beyond k
  have hi : ∀ c, c < 2 ^ (k + 1) → ¬ c < 2 ^ k → ∃ c', c' < 2 ^ k ∧ c = 2 ^ k ^^^ c' := by
    intro c hc hn
    refine ⟨2 ^ k ^^^ c, ?_, (xx _ _).symm⟩
    refine Nat.lt_pow_two_of_testBit _ fun i hi => ?_
    rw [Nat.testBit_xor, Nat.testBit_two_pow]
    by_cases hik : k = i
    · subst hik
      have : c.testBit k = true := by
        have e2 : c = 2 ^ k + (c - 2 ^ k) := by omega
        rw [e2, Nat.testBit_two_pow_add_eq, Nat.testBit_lt_two_pow (by rw [Nat.pow_succ] at hc; omega)]
        rfl
      rw [this, decide_eq_true rfl]; rfl
    · rw [decide_eq_false hik, Nat.testBit_lt_two_pow (Nat.lt_of_lt_of_le hc (Nat.pow_le_pow_right (by decide) (by omega)))]; rfl
  generalize hcc : 2 ^ k ^^^ d = c at *
  rw [G_low h, G_high h]
  by_cases hlow : gK rows c 6 = 0
  · rw [if_pos hlow]
    refine ⟨i1, fun p hp => ?_, fun q hq => ?_, fun c' hc' => ?_, ?_, ?_⟩
    · obtain ⟨c0, h0, e0⟩ := i2 p hp
      exact ⟨c0, Nat.lt_trans h0 hp1, e0⟩
    · rcases List.mem_append.mp hq with hq | hq
      · exact ⟨Nat.lt_trans (i3 q hq).1 hp1, (i3 q hq).2⟩
      · rw [List.mem_singleton.mp hq]; exact ⟨hcl, hlow⟩
    · by_cases hlt : c' < 2 ^ k
      · obtain ⟨s', q', h1, h2, h3⟩ := i4 c' hlt
        exact ⟨s', q', h1, h2.left, h3⟩
      · obtain ⟨c1, hc1, rfl⟩ := hi c' hc' hlt
        obtain ⟨s', q', h1, h2, h3⟩ := i4 c1 hc1
        refine ⟨G rows d ^^^ s', c ^^^ q', hs.xor h1, (Sp.mem (List.mem_append_right _ (.head _))).xor h2.left, ?_⟩
        rw [G_xor, hGd, h3, G_ker c hlow, Nat.shiftLeft_xor_distrib, Nat.xor_assoc, Nat.xor_assoc, xswap (c <<< 6), xswap (c <<< 6)]
    · exact nodup_snoc i5 (fun v hv => (span_ker i3 (mem_made.mp hv)).1) hcb
    · show st.length + (qu ++ [c]).length = k + 1
      rw [List.length_append, List.length_singleton]; omega
  · rw [if_neg hlow]
    obtain ⟨t, ht, el, hbt⟩ := lowb_pow (gK_lt h c 6 (Nat.le_refl _)) hlow
    rw [el]
    refine ⟨stair_snoc i1 ht (by rw [G_bit h c t ht]; exact hbt) hz, fun p hp => ?_, fun q hq => ⟨Nat.lt_trans (i3 q hq).1 hp1, (i3 q hq).2⟩, fun c' hc' => ?_, i5, ?_⟩
    · rcases List.mem_append.mp hp with hp | hp
      · obtain ⟨c0, h0, e0⟩ := i2 p hp
        exact ⟨c0, Nat.lt_trans h0 hp1, e0⟩
      · rw [List.mem_singleton.mp hp]; exact ⟨c, hcl, rfl⟩
    · rw [List.map_append]
      by_cases hlt : c' < 2 ^ k
      · obtain ⟨s', q', h1, h2, h3⟩ := i4 c' hlt
        exact ⟨s', q', h1.left, h2, h3⟩
      · obtain ⟨c1, hc1, rfl⟩ := hi c' hc' hlt
        obtain ⟨s', q', h1, h2, h3⟩ := i4 c1 hc1
        refine ⟨G rows c ^^^ (G rows d ^^^ s'), q', (Sp.mem (List.mem_append_right _ (.head _))).xor (hs.xor h1).left, h2, ?_⟩
        rw [G_xor, hGd, h3, Nat.xor_assoc, Nat.xor_assoc, Nat.xor_assoc]
    · show (st ++ [(2 ^ t, G rows c)]).length + qu.length = k + 1
      rw [List.length_append, List.length_singleton]; omega
theorem inv0 (c : Nat) (hc : c < 2 ^ 0) : ∃ s q, Sp (([] : List (Nat × Nat)).map (·.2)) s ∧ Sp [] q ∧ G rows c = s ^^^ (q <<< 6) := by
  have : c = 0 := by simp at hc; omega
  subst this
  exact ⟨0, 0, .nil, .nil, by rw [G_zero]; rfl⟩
theorem inv_at (h : Rows rows) : ∀ k, k ≤ 6 → Inv rows k (stS rows k).1 (stS rows k).2
  | 0, _ => ⟨.nil, (fun p hp => nomatch hp), (fun q hq => nomatch hq), (fun c hc => inv0 c hc), (show (madeS []).Nodup by decide), rfl⟩
  | k + 1, hk => by
    rw [stS_succ]
    exact inv_step h (by omega) (inv_at h k (by omega))
end
end
section
open PySem
/-! parity -/
noncomputable def xorK (b : Nat → Bool) : Nat → Bool
  | 0 => false
  | k + 1 => (b k) ^^ xorK b k
theorem sum_par (b : Nat → Bool) : ∀ k, ((List.range k).map fun i => (b i).toNat).sum % 2 = (xorK b k).toNat
  | 0 => rfl
  | k + 1 => by
    rw [List.range_succ, List.map_append, List.sum_append, List.map_singleton, List.sum_singleton, Nat.add_mod, sum_par b k, xorK]
    cases b k <;> cases xorK b k <;> rfl
theorem sum_le (b : Nat → Bool) : ∀ k, ((List.range k).map fun i => (b i).toNat).sum ≤ k
  | 0 => Nat.le_refl _
  | k + 1 => by
    rw [List.range_succ, List.map_append, List.sum_append, List.map_singleton, List.sum_singleton]
    have := sum_le b k
    cases b k <;> simp <;> omega
theorem bit_and1 (v i : Nat) : v >>> i &&& 1 = (v.testBit i).toNat := by
  rw [Nat.testBit_eq_decide_div_mod_eq, Nat.and_one_is_mod, Nat.shiftRight_eq_div_pow]
  have := Nat.mod_two_eq_zero_or_one (v / 2 ^ i)
  rcases this with h | h <;> rw [h] <;> rfl
noncomputable def parB (x y : Nat) : Bool := xorK (fun i => x.testBit i && y.testBit i) 6
theorem xorK_xor (a b : Nat → Bool) : ∀ k, xorK (fun i => a i ^^ b i) k = (xorK a k ^^ xorK b k)
  | 0 => rfl
  | k + 1 => by
    rw [xorK, xorK, xorK, xorK_xor a b k]
    cases a k <;> cases b k <;> cases xorK a k <;> cases xorK b k <;> rfl
theorem xorK_congr {a b : Nat → Bool} : ∀ k, (∀ i, i < k → a i = b i) → xorK a k = xorK b k
  | 0, _ => rfl
  | k + 1, h => by rw [xorK, xorK, h k (by omega), xorK_congr k fun i hi => h i (by omega)]
theorem xorK_false : ∀ k, xorK (fun _ => false) k = false
  | 0 => rfl
  | k + 1 => by rw [xorK, xorK_false k]; rfl
theorem parB_comm (x y : Nat) : parB x y = parB y x := xorK_congr 6 fun i _ => Bool.and_comm _ _
theorem parB_xor (x y z : Nat) : parB (x ^^^ y) z = (parB x z ^^ parB y z) := by
  unfold parB
  rw [← xorK_xor]
  refine xorK_congr 6 fun i _ => ?_
  rw [Nat.testBit_xor]
  cases x.testBit i <;> cases y.testBit i <;> cases z.testBit i <;> rfl
theorem parB_xor' (x y z : Nat) : parB z (x ^^^ y) = (parB z x ^^ parB z y) := by rw [parB_comm, parB_xor, parB_comm x, parB_comm y]
theorem parB_zero (x : Nat) : parB x 0 = false := by
  unfold parB
  rw [← xorK_false 6]
  refine xorK_congr 6 fun i _ => ?_
  rw [Nat.zero_testBit, Bool.and_false]
theorem xorK_one {b : Nat → Bool} {j : Nat} : ∀ k, j < k → (∀ i, i < k → i ≠ j → b i = false) → xorK b k = b j
  | k + 1, hj, h => by
    rw [xorK]
    by_cases hk : k = j
    · subst hk
      rw [xorK_congr (b := fun _ => false) k fun i hi => h i (by omega) (by omega), xorK_false, Bool.xor_false]
    · rw [h k (by omega) hk, xorK_one k (by omega) fun i hi hn => h i (by omega) hn, Bool.false_xor]
theorem parB_pow {j : Nat} (hj : j < 6) (y : Nat) : parB (2 ^ j) y = y.testBit j := by
  unfold parB
  rw [xorK_one 6 hj fun i _ hn => by rw [Nat.testBit_two_pow, decide_eq_false (fun e => hn e.symm), Bool.false_and], Nat.testBit_two_pow_self, Bool.true_and]

theorem unit_fin : ∀ x : Fin 64, x.val ∈ madeS [2 ^ 0, 2 ^ 1, 2 ^ 2, 2 ^ 3, 2 ^ 4, 2 ^ 5] := by decide +kernel
/-- what holds for the unit bits and is closed under sums, holds below 64 -/
theorem by_units {P : Nat → Prop} (h0 : P 0) (hx : ∀ a b, P a → P b → P (a ^^^ b)) (hu : ∀ j, j < 6 → P (2 ^ j)) {x : Nat} (h : x < 64) : P x :=
  Sp.closed h0 hx (mem_made.mp (unit_fin ⟨x, h⟩)) fun a ha => by
    simp only [List.mem_cons, List.not_mem_nil, or_false] at ha
    rcases ha with rfl | rfl | rfl | rfl | rfl | rfl
    · exact hu 0 (by decide)
    · exact hu 1 (by decide)
    · exact hu 2 (by decide)
    · exact hu 3 (by decide)
    · exact hu 4 (by decide)
    · exact hu 5 (by decide)
theorem bits_ex (f : Nat → Bool) : ∀ k, ∃ x, x < 2 ^ k ∧ ∀ i, i < k → x.testBit i = f i
  | 0 => ⟨0, by decide, fun i h => by omega⟩
  | k + 1 => by
    obtain ⟨x, hx, hb⟩ := bits_ex f k
    cases hf : f k with
    | false =>
      refine ⟨x, Nat.lt_trans hx (Nat.pow_lt_pow_right (by decide) (by omega)), fun i hi => ?_⟩
      by_cases h : i = k
      · subst h; rw [hf, Nat.testBit_lt_two_pow hx]
      · exact hb i (by omega)
    | true =>
      refine ⟨2 ^ k + x, by rw [Nat.pow_succ]; omega, fun i hi => ?_⟩
      by_cases h : i = k
      · subst h; rw [hf, Nat.testBit_two_pow_add_eq, Nat.testBit_lt_two_pow hx]; rfl
      · rw [Nat.testBit_two_pow_add_gt (by omega)]; exact hb i (by omega)

section
variable {rows : List Nat}
theorem gK_bit (c i : Nat) : ∀ k, (gK rows c k).testBit i = xorK (fun j => c.testBit j && rows[j]!.testBit i) k
  | 0 => by rw [gK, Nat.zero_testBit]; rfl
  | k + 1 => by
    rw [gK, Nat.testBit_xor, gK_bit c i k, xorK]
    congr 1
    cases c.testBit k <;> simp
noncomputable def Sym (rows : List Nat) : Prop := ∀ i j, i < 6 → j < 6 → rows[i]!.testBit j = rows[j]!.testBit i
theorem par_row (hs : Sym rows) {q i : Nat} (hi : i < 6) : parB q rows[i]! = (gK rows q 6).testBit i := by
  rw [gK_bit]
  exact xorK_congr 6 fun j hj => by rw [hs i j hi hj]
theorem beta_comm (hs : Sym rows) {q c : Nat} (hc : c < 64) : parB q (gK rows c 6) = parB c (gK rows q 6) := by
  refine by_units (P := fun c => parB q (gK rows c 6) = parB c (gK rows q 6)) ?_ (fun a b ha hb => ?_) (fun j hj => ?_) hc
  · rw [gK_zero, parB_zero, parB_comm, parB_zero]
  · rw [gK_xor, parB_xor', parB_xor, ha, hb]
  · rw [gK_pow hj, par_row hs hj, parB_pow hj]
theorem diag_ok (h : Rows rows) (hs : Sym rows) {diag x : Nat} (hd : ∀ i, i < 6 → diag.testBit i = rows[i]!.testBit i) (hx : x < 64) : parB x (gK rows x 6) = parB x diag := by
  have hP : x < 64 ∧ parB x (gK rows x 6) = parB x diag := by
    refine by_units (P := fun x => x < 64 ∧ parB x (gK rows x 6) = parB x diag) ⟨by decide, ?_⟩ (fun a b ha hb => ⟨Nat.xor_lt_two_pow (n := 6) ha.1 hb.1, ?_⟩) (fun j hj => ⟨Nat.pow_lt_pow_right (by decide) hj, ?_⟩) hx
    · rw [parB_comm, gK_zero, parB_comm, parB_zero, parB_comm, parB_zero]
    · rw [gK_xor, parB_xor, parB_xor', parB_xor', parB_xor, ha.2, hb.2, beta_comm hs (q := a) hb.1]
      cases parB a diag <;> cases parB b diag <;> cases parB b (gK rows a 6) <;> rfl
    · rw [gK_pow hj, parB_pow hj, parB_pow hj, hd j hj]
  exact hP.2

variable (h : Rows rows)
include h
theorem red_im {c : Nat} (hc : c < 64) : redS (gK rows c 6) (stS rows 6).1 &&& 63 = 0 ∧ redS (gK rows c 6) (stS rows 6).1 >>> 6 < 64 ∧ gK rows (redS (gK rows c 6) (stS rows 6).1 >>> 6) 6 = gK rows c 6 := by
  obtain ⟨i1, i2, i3, i4, i5, i6⟩ := inv_at h 6 (Nat.le_refl _)
  obtain ⟨s, hs, e⟩ := red_span (stS rows 6).1 (gK rows c 6)
  obtain ⟨s', q, hs', hq, e'⟩ := i4 c hc
  have hz := red_pz i1 (gK rows c 6)
  have hw : gK rows c 6 = G rows c ^^^ (c <<< 6) := by unfold G; rw [Nat.xor_assoc, Nat.xor_self, Nat.xor_zero]
  have hr : redS (gK rows c 6) (stS rows 6).1 = (s ^^^ s') ^^^ ((c ^^^ q) <<< 6) := by
    rw [e, hw, e', Nat.shiftLeft_xor_distrib]
    ac_rfl
  have hv : s ^^^ s' = 0 := by
    refine pz_span i1 (hs.xor hs') fun p hp => ?_
    have h1 := hz p hp
    obtain ⟨t, ht, hpt⟩ : ∃ t, t < 6 ∧ p.1 = 2 ^ t := by
      have : ∀ {st : List (Nat × Nat)}, Stair st → ∀ p ∈ st, ∃ t, t < 6 ∧ p.1 = 2 ^ t := by
        intro st hst
        induction hst with
        | nil => intro p hp; cases hp
        | cons h6 _ _ _ ih =>
          intro p hp
          rcases List.mem_cons.mp hp with rfl | hp
          · exact ⟨_, h6, rfl⟩
          · exact ih p hp
      exact this i1 p hp
    rw [hpt] at h1 ⊢
    rw [pz_bit] at h1 ⊢
    rw [hr, Nat.testBit_xor, Nat.testBit_shiftLeft, decide_eq_false (by omega)] at h1
    simpa using h1
  rw [hv, Nat.zero_xor] at hr
  obtain ⟨hq1, hq2⟩ := span_ker i3 hq
  rw [hr, shift_low, Nat.shiftLeft_shiftRight]
  refine ⟨rfl, Nat.xor_lt_two_pow (n := 6) hc hq1, ?_⟩
  rw [gK_xor, hq2, Nat.xor_zero]
theorem red_low {w : Nat} (hw : w < 64) (h0 : redS w (stS rows 6).1 &&& 63 = 0) : ∃ c, c < 64 ∧ gK rows c 6 = w := by
  obtain ⟨i1, i2, i3, i4, i5, i6⟩ := inv_at h 6 (Nat.le_refl _)
  obtain ⟨s, hs, e⟩ := red_span (stS rows 6).1 w
  obtain ⟨d, hd, rfl⟩ := span_G i2 hs
  refine ⟨d, hd, Nat.eq_of_testBit_eq fun i => ?_⟩
  by_cases hi : i < 6
  · have := congrArg (·.testBit i) h0
    simp only [Nat.zero_testBit] at this
    rw [low_bit, e, Nat.testBit_xor, G_bit h d i hi, decide_eq_true hi, Bool.and_true] at this
    cases hx : w.testBit i <;> cases hy : (gK rows d 6).testBit i <;> simp_all
  · rw [big_bit (gK_lt h d 6 (Nat.le_refl _)) hi, big_bit hw hi]
theorem ker_sp {c : Nat} (hc : c < 64) : gK rows c 6 = 0 ↔ Sp (stS rows 6).2 c := by
  obtain ⟨i1, i2, i3, i4, i5, i6⟩ := inv_at h 6 (Nat.le_refl _)
  refine ⟨fun hk => ?_, fun hs => (span_ker i3 hs).2⟩
  obtain ⟨s, q, hs, hq, e⟩ := i4 c hc
  rw [G_ker c hk] at e
  have hv : s = 0 := by
    refine pz_span i1 hs fun p hp => ?_
    obtain ⟨t, ht, hpt⟩ : ∃ t, t < 6 ∧ p.1 = 2 ^ t := by
      have : ∀ {st : List (Nat × Nat)}, Stair st → ∀ p ∈ st, ∃ t, t < 6 ∧ p.1 = 2 ^ t := by
        intro st hst
        induction hst with
        | nil => intro p hp; cases hp
        | cons h6 _ _ _ ih =>
          intro p hp
          rcases List.mem_cons.mp hp with rfl | hp
          · exact ⟨_, h6, rfl⟩
          · exact ih p hp
      exact this i1 p hp
    have es : s = (c <<< 6) ^^^ (q <<< 6) := by rw [e, Nat.xor_assoc, Nat.xor_self, Nat.xor_zero]
    rw [hpt, pz_bit, es, Nat.testBit_xor, Nat.testBit_shiftLeft, Nat.testBit_shiftLeft, decide_eq_false (by omega)]
    rfl
  rw [hv, Nat.zero_xor] at e
  have := congrArg (· >>> 6) e
  simp only [Nat.shiftLeft_shiftRight] at this
  rw [this]
  exact hq
/-- what is at right angles to the kernel can be pressed -/
theorem perp_im (hs : Sym rows) {w : Nat} (hw : w < 64) (hp : ∀ q ∈ (stS rows 6).2, parB q w = false) : ∃ c, c < 64 ∧ gK rows c 6 = w := by
  obtain ⟨i1, i2, i3, i4, i5, i6⟩ := inv_at h 6 (Nat.le_refl _)
  refine red_low h hw (Nat.eq_of_testBit_eq fun b => ?_)
  rw [low_bit, Nat.zero_testBit]
  by_cases hb : b < 6
  · obtain ⟨x, hx, hbits⟩ := bits_ex (fun i => (redS (2 ^ i) (stS rows 6).1).testBit b) 6
    have hphi : ∀ w, w < 64 → (redS w (stS rows 6).1).testBit b = parB x w := fun w hw => by
      refine by_units (P := fun w => (redS w (stS rows 6).1).testBit b = parB x w) ?_ (fun a c ha hc => ?_) (fun j hj => ?_) hw
      · have := red_xor i1 0 0
        rw [Nat.xor_self, Nat.xor_self] at this
        rw [this, parB_zero, Nat.zero_testBit]
      · rw [red_xor i1, Nat.testBit_xor, ha, hc, parB_xor']
      · rw [parB_comm, parB_pow hj, hbits j hj]
    have hker : gK rows x 6 = 0 := by
      refine Nat.eq_of_testBit_eq fun i => ?_
      rw [Nat.zero_testBit]
      by_cases hi : i < 6
      · rw [← par_row hs hi, ← hphi _ (h.2 i hi), ← gK_pow hi]
        have := congrArg (·.testBit b) (red_im h (c := 2 ^ i) (Nat.pow_lt_pow_right (by decide) hi)).1
        simp only [low_bit, Nat.zero_testBit, decide_eq_true hb, Bool.and_true] at this
        exact this
      · exact big_bit (gK_lt h x 6 (Nat.le_refl _)) hi
    have hsp := (ker_sp h hx).mp hker
    have h0 : parB x w = false := Sp.closed (P := fun v => parB v w = false) (by rw [parB_comm, parB_zero]) (fun a b ha hb => by rw [parB_xor, ha, hb]; rfl) hsp hp
    rw [hphi w hw, h0]; rfl
  · rw [decide_eq_false hb, Bool.and_false]
theorem im_perp (hs : Sym rows) {c q : Nat} (hc : c < 64) (hq : q ∈ (stS rows 6).2) : parB q (gK rows c 6) = false := by
  have := (inv_at h 6 (Nat.le_refl _)).ker q hq
  rw [beta_comm hs hc, this.2, parB_zero]
/-- all lamps can be turned: the loops' row is in the image -/
theorem sutner (hs : Sym rows) {diag : Nat} (hd : ∀ i, i < 6 → diag.testBit i = rows[i]!.testBit i) (hw : diag < 64) : ∃ c, c < 64 ∧ gK rows c 6 = diag := by
  refine perp_im h hs hw fun q hq => ?_
  have := (inv_at h 6 (Nat.le_refl _)).ker q hq
  rw [← diag_ok h hs hd this.1, this.2, parB_zero]
end
end
section
open PySem
theorem net_eq (roads heard : Nat) : netS roads heard = [((heard >>> 0 &&& 1) <<< 0) + ((roads >>> 0 &&& 1) <<< 1) + ((roads >>> 1 &&& 1) <<< 2) + ((roads >>> 3 &&& 1) <<< 3) + ((roads >>> 6 &&& 1) <<< 4) + ((roads >>> 10 &&& 1) <<< 5),
  ((heard >>> 1 &&& 1) <<< 1) + ((roads >>> 0 &&& 1) <<< 0) + ((roads >>> 2 &&& 1) <<< 2) + ((roads >>> 4 &&& 1) <<< 3) + ((roads >>> 7 &&& 1) <<< 4) + ((roads >>> 11 &&& 1) <<< 5),
  ((heard >>> 2 &&& 1) <<< 2) + ((roads >>> 1 &&& 1) <<< 0) + ((roads >>> 2 &&& 1) <<< 1) + ((roads >>> 5 &&& 1) <<< 3) + ((roads >>> 8 &&& 1) <<< 4) + ((roads >>> 12 &&& 1) <<< 5),
  ((heard >>> 3 &&& 1) <<< 3) + ((roads >>> 3 &&& 1) <<< 0) + ((roads >>> 4 &&& 1) <<< 1) + ((roads >>> 5 &&& 1) <<< 2) + ((roads >>> 9 &&& 1) <<< 4) + ((roads >>> 13 &&& 1) <<< 5),
  ((heard >>> 4 &&& 1) <<< 4) + ((roads >>> 6 &&& 1) <<< 0) + ((roads >>> 7 &&& 1) <<< 1) + ((roads >>> 8 &&& 1) <<< 2) + ((roads >>> 9 &&& 1) <<< 3) + ((roads >>> 14 &&& 1) <<< 5),
  ((heard >>> 5 &&& 1) <<< 5) + ((roads >>> 10 &&& 1) <<< 0) + ((roads >>> 11 &&& 1) <<< 1) + ((roads >>> 12 &&& 1) <<< 2) + ((roads >>> 13 &&& 1) <<< 3) + ((roads >>> 14 &&& 1) <<< 4)] := by kernel_rfl
noncomputable def nb (roads heard i j : Nat) : Bool := if i = j then heard.testBit i else roads.testBit (max i j * (max i j - 1) / 2 + min i j)
theorem nrow0 : ∀ b0 b1 b2 b3 b4 b5 : Bool, ((b0.toNat <<< 0) + (b1.toNat <<< 1) + (b2.toNat <<< 2) + (b3.toNat <<< 3) + (b4.toNat <<< 4) + (b5.toNat <<< 5)) < 64 ∧ ((b0.toNat <<< 0) + (b1.toNat <<< 1) + (b2.toNat <<< 2) + (b3.toNat <<< 3) + (b4.toNat <<< 4) + (b5.toNat <<< 5)).testBit 0 = b0 ∧ ((b0.toNat <<< 0) + (b1.toNat <<< 1) + (b2.toNat <<< 2) + (b3.toNat <<< 3) + (b4.toNat <<< 4) + (b5.toNat <<< 5)).testBit 1 = b1 ∧ ((b0.toNat <<< 0) + (b1.toNat <<< 1) + (b2.toNat <<< 2) + (b3.toNat <<< 3) + (b4.toNat <<< 4) + (b5.toNat <<< 5)).testBit 2 = b2 ∧ ((b0.toNat <<< 0) + (b1.toNat <<< 1) + (b2.toNat <<< 2) + (b3.toNat <<< 3) + (b4.toNat <<< 4) + (b5.toNat <<< 5)).testBit 3 = b3 ∧ ((b0.toNat <<< 0) + (b1.toNat <<< 1) + (b2.toNat <<< 2) + (b3.toNat <<< 3) + (b4.toNat <<< 4) + (b5.toNat <<< 5)).testBit 4 = b4 ∧ ((b0.toNat <<< 0) + (b1.toNat <<< 1) + (b2.toNat <<< 2) + (b3.toNat <<< 3) + (b4.toNat <<< 4) + (b5.toNat <<< 5)).testBit 5 = b5 := by decide +kernel
theorem nrow1 : ∀ b0 b1 b2 b3 b4 b5 : Bool, ((b1.toNat <<< 1) + (b0.toNat <<< 0) + (b2.toNat <<< 2) + (b3.toNat <<< 3) + (b4.toNat <<< 4) + (b5.toNat <<< 5)) < 64 ∧ ((b1.toNat <<< 1) + (b0.toNat <<< 0) + (b2.toNat <<< 2) + (b3.toNat <<< 3) + (b4.toNat <<< 4) + (b5.toNat <<< 5)).testBit 0 = b0 ∧ ((b1.toNat <<< 1) + (b0.toNat <<< 0) + (b2.toNat <<< 2) + (b3.toNat <<< 3) + (b4.toNat <<< 4) + (b5.toNat <<< 5)).testBit 1 = b1 ∧ ((b1.toNat <<< 1) + (b0.toNat <<< 0) + (b2.toNat <<< 2) + (b3.toNat <<< 3) + (b4.toNat <<< 4) + (b5.toNat <<< 5)).testBit 2 = b2 ∧ ((b1.toNat <<< 1) + (b0.toNat <<< 0) + (b2.toNat <<< 2) + (b3.toNat <<< 3) + (b4.toNat <<< 4) + (b5.toNat <<< 5)).testBit 3 = b3 ∧ ((b1.toNat <<< 1) + (b0.toNat <<< 0) + (b2.toNat <<< 2) + (b3.toNat <<< 3) + (b4.toNat <<< 4) + (b5.toNat <<< 5)).testBit 4 = b4 ∧ ((b1.toNat <<< 1) + (b0.toNat <<< 0) + (b2.toNat <<< 2) + (b3.toNat <<< 3) + (b4.toNat <<< 4) + (b5.toNat <<< 5)).testBit 5 = b5 := by decide +kernel
theorem nrow2 : ∀ b0 b1 b2 b3 b4 b5 : Bool, ((b2.toNat <<< 2) + (b0.toNat <<< 0) + (b1.toNat <<< 1) + (b3.toNat <<< 3) + (b4.toNat <<< 4) + (b5.toNat <<< 5)) < 64 ∧ ((b2.toNat <<< 2) + (b0.toNat <<< 0) + (b1.toNat <<< 1) + (b3.toNat <<< 3) + (b4.toNat <<< 4) + (b5.toNat <<< 5)).testBit 0 = b0 ∧ ((b2.toNat <<< 2) + (b0.toNat <<< 0) + (b1.toNat <<< 1) + (b3.toNat <<< 3) + (b4.toNat <<< 4) + (b5.toNat <<< 5)).testBit 1 = b1 ∧ ((b2.toNat <<< 2) + (b0.toNat <<< 0) + (b1.toNat <<< 1) + (b3.toNat <<< 3) + (b4.toNat <<< 4) + (b5.toNat <<< 5)).testBit 2 = b2 ∧ ((b2.toNat <<< 2) + (b0.toNat <<< 0) + (b1.toNat <<< 1) + (b3.toNat <<< 3) + (b4.toNat <<< 4) + (b5.toNat <<< 5)).testBit 3 = b3 ∧ ((b2.toNat <<< 2) + (b0.toNat <<< 0) + (b1.toNat <<< 1) + (b3.toNat <<< 3) + (b4.toNat <<< 4) + (b5.toNat <<< 5)).testBit 4 = b4 ∧ ((b2.toNat <<< 2) + (b0.toNat <<< 0) + (b1.toNat <<< 1) + (b3.toNat <<< 3) + (b4.toNat <<< 4) + (b5.toNat <<< 5)).testBit 5 = b5 := by decide +kernel
theorem nrow3 : ∀ b0 b1 b2 b3 b4 b5 : Bool, ((b3.toNat <<< 3) + (b0.toNat <<< 0) + (b1.toNat <<< 1) + (b2.toNat <<< 2) + (b4.toNat <<< 4) + (b5.toNat <<< 5)) < 64 ∧ ((b3.toNat <<< 3) + (b0.toNat <<< 0) + (b1.toNat <<< 1) + (b2.toNat <<< 2) + (b4.toNat <<< 4) + (b5.toNat <<< 5)).testBit 0 = b0 ∧ ((b3.toNat <<< 3) + (b0.toNat <<< 0) + (b1.toNat <<< 1) + (b2.toNat <<< 2) + (b4.toNat <<< 4) + (b5.toNat <<< 5)).testBit 1 = b1 ∧ ((b3.toNat <<< 3) + (b0.toNat <<< 0) + (b1.toNat <<< 1) + (b2.toNat <<< 2) + (b4.toNat <<< 4) + (b5.toNat <<< 5)).testBit 2 = b2 ∧ ((b3.toNat <<< 3) + (b0.toNat <<< 0) + (b1.toNat <<< 1) + (b2.toNat <<< 2) + (b4.toNat <<< 4) + (b5.toNat <<< 5)).testBit 3 = b3 ∧ ((b3.toNat <<< 3) + (b0.toNat <<< 0) + (b1.toNat <<< 1) + (b2.toNat <<< 2) + (b4.toNat <<< 4) + (b5.toNat <<< 5)).testBit 4 = b4 ∧ ((b3.toNat <<< 3) + (b0.toNat <<< 0) + (b1.toNat <<< 1) + (b2.toNat <<< 2) + (b4.toNat <<< 4) + (b5.toNat <<< 5)).testBit 5 = b5 := by decide +kernel
theorem nrow4 : ∀ b0 b1 b2 b3 b4 b5 : Bool, ((b4.toNat <<< 4) + (b0.toNat <<< 0) + (b1.toNat <<< 1) + (b2.toNat <<< 2) + (b3.toNat <<< 3) + (b5.toNat <<< 5)) < 64 ∧ ((b4.toNat <<< 4) + (b0.toNat <<< 0) + (b1.toNat <<< 1) + (b2.toNat <<< 2) + (b3.toNat <<< 3) + (b5.toNat <<< 5)).testBit 0 = b0 ∧ ((b4.toNat <<< 4) + (b0.toNat <<< 0) + (b1.toNat <<< 1) + (b2.toNat <<< 2) + (b3.toNat <<< 3) + (b5.toNat <<< 5)).testBit 1 = b1 ∧ ((b4.toNat <<< 4) + (b0.toNat <<< 0) + (b1.toNat <<< 1) + (b2.toNat <<< 2) + (b3.toNat <<< 3) + (b5.toNat <<< 5)).testBit 2 = b2 ∧ ((b4.toNat <<< 4) + (b0.toNat <<< 0) + (b1.toNat <<< 1) + (b2.toNat <<< 2) + (b3.toNat <<< 3) + (b5.toNat <<< 5)).testBit 3 = b3 ∧ ((b4.toNat <<< 4) + (b0.toNat <<< 0) + (b1.toNat <<< 1) + (b2.toNat <<< 2) + (b3.toNat <<< 3) + (b5.toNat <<< 5)).testBit 4 = b4 ∧ ((b4.toNat <<< 4) + (b0.toNat <<< 0) + (b1.toNat <<< 1) + (b2.toNat <<< 2) + (b3.toNat <<< 3) + (b5.toNat <<< 5)).testBit 5 = b5 := by decide +kernel
theorem nrow5 : ∀ b0 b1 b2 b3 b4 b5 : Bool, ((b5.toNat <<< 5) + (b0.toNat <<< 0) + (b1.toNat <<< 1) + (b2.toNat <<< 2) + (b3.toNat <<< 3) + (b4.toNat <<< 4)) < 64 ∧ ((b5.toNat <<< 5) + (b0.toNat <<< 0) + (b1.toNat <<< 1) + (b2.toNat <<< 2) + (b3.toNat <<< 3) + (b4.toNat <<< 4)).testBit 0 = b0 ∧ ((b5.toNat <<< 5) + (b0.toNat <<< 0) + (b1.toNat <<< 1) + (b2.toNat <<< 2) + (b3.toNat <<< 3) + (b4.toNat <<< 4)).testBit 1 = b1 ∧ ((b5.toNat <<< 5) + (b0.toNat <<< 0) + (b1.toNat <<< 1) + (b2.toNat <<< 2) + (b3.toNat <<< 3) + (b4.toNat <<< 4)).testBit 2 = b2 ∧ ((b5.toNat <<< 5) + (b0.toNat <<< 0) + (b1.toNat <<< 1) + (b2.toNat <<< 2) + (b3.toNat <<< 3) + (b4.toNat <<< 4)).testBit 3 = b3 ∧ ((b5.toNat <<< 5) + (b0.toNat <<< 0) + (b1.toNat <<< 1) + (b2.toNat <<< 2) + (b3.toNat <<< 3) + (b4.toNat <<< 4)).testBit 4 = b4 ∧ ((b5.toNat <<< 5) + (b0.toNat <<< 0) + (b1.toNat <<< 1) + (b2.toNat <<< 2) + (b3.toNat <<< 3) + (b4.toNat <<< 4)).testBit 5 = b5 := by decide +kernel

theorem net_rows (roads heard : Nat) : Rows (netS roads heard) ∧ ∀ i j, i < 6 → j < 6 → (netS roads heard)[i]!.testBit j = nb roads heard i j := by
  rw [net_eq]
  simp only [bit_and1]
  have h0 := nrow0 (heard.testBit 0) (roads.testBit 0) (roads.testBit 1) (roads.testBit 3) (roads.testBit 6) (roads.testBit 10)
  have h1 := nrow1 (roads.testBit 0) (heard.testBit 1) (roads.testBit 2) (roads.testBit 4) (roads.testBit 7) (roads.testBit 11)
  have h2 := nrow2 (roads.testBit 1) (roads.testBit 2) (heard.testBit 2) (roads.testBit 5) (roads.testBit 8) (roads.testBit 12)
  have h3 := nrow3 (roads.testBit 3) (roads.testBit 4) (roads.testBit 5) (heard.testBit 3) (roads.testBit 9) (roads.testBit 13)
  have h4 := nrow4 (roads.testBit 6) (roads.testBit 7) (roads.testBit 8) (roads.testBit 9) (heard.testBit 4) (roads.testBit 14)
  have h5 := nrow5 (roads.testBit 10) (roads.testBit 11) (roads.testBit 12) (roads.testBit 13) (roads.testBit 14) (heard.testBit 5)
  refine ⟨⟨rfl, fun i hi => ?_⟩, fun i j hi hj => ?_⟩
  · match i, hi with
    | 0, _ => exact h0.1
    | 1, _ => exact h1.1
    | 2, _ => exact h2.1
    | 3, _ => exact h3.1
    | 4, _ => exact h4.1
    | 5, _ => exact h5.1
  · match i, hi with
    | 0, _ =>
      obtain ⟨_, k0, k1, k2, k3, k4, k5⟩ := h0
      match j, hj with
      | 0, _ => exact k0
      | 1, _ => exact k1
      | 2, _ => exact k2
      | 3, _ => exact k3
      | 4, _ => exact k4
      | 5, _ => exact k5
    | 1, _ =>
      obtain ⟨_, k0, k1, k2, k3, k4, k5⟩ := h1
      match j, hj with
      | 0, _ => exact k0
      | 1, _ => exact k1
      | 2, _ => exact k2
      | 3, _ => exact k3
      | 4, _ => exact k4
      | 5, _ => exact k5
    | 2, _ =>
      obtain ⟨_, k0, k1, k2, k3, k4, k5⟩ := h2
      match j, hj with
      | 0, _ => exact k0
      | 1, _ => exact k1
      | 2, _ => exact k2
      | 3, _ => exact k3
      | 4, _ => exact k4
      | 5, _ => exact k5
    | 3, _ =>
      obtain ⟨_, k0, k1, k2, k3, k4, k5⟩ := h3
      match j, hj with
      | 0, _ => exact k0
      | 1, _ => exact k1
      | 2, _ => exact k2
      | 3, _ => exact k3
      | 4, _ => exact k4
      | 5, _ => exact k5
    | 4, _ =>
      obtain ⟨_, k0, k1, k2, k3, k4, k5⟩ := h4
      match j, hj with
      | 0, _ => exact k0
      | 1, _ => exact k1
      | 2, _ => exact k2
      | 3, _ => exact k3
      | 4, _ => exact k4
      | 5, _ => exact k5
    | 5, _ =>
      obtain ⟨_, k0, k1, k2, k3, k4, k5⟩ := h5
      match j, hj with
      | 0, _ => exact k0
      | 1, _ => exact k1
      | 2, _ => exact k2
      | 3, _ => exact k3
      | 4, _ => exact k4
      | 5, _ => exact k5
theorem nb_comm (roads heard i j : Nat) : nb roads heard i j = nb roads heard j i := by
  unfold nb
  by_cases h : i = j
  · subst h; rfl
  · rw [if_neg h, if_neg (fun e => h e.symm), Nat.max_comm, Nat.min_comm]
theorem net_sym (roads heard : Nat) : Sym (netS roads heard) := fun i j hi hj => by rw [(net_rows roads heard).2 i j hi hj, (net_rows roads heard).2 j i hj hi, nb_comm]
theorem net_diag (roads heard : Nat) : ∀ i, i < 6 → heard.testBit i = (netS roads heard)[i]!.testBit i := fun i hi => by
  rw [(net_rows roads heard).2 i i hi hi]
  unfold nb
  rw [if_pos rfl]
end
section
open PySem
theorem nat_ext64 {a b : Nat} (ha : a < 64) (hb : b < 64) (h : ∀ i, i < 6 → a.testBit i = b.testBit i) : a = b :=
  Nat.eq_of_testBit_eq fun i => by
    by_cases hi : i < 6
    · exact h i hi
    · rw [big_bit ha hi, big_bit hb hi]
theorem sum_fin : ∀ x : Fin 64, (((List.range 6).filter fun l => x.val.testBit l).map fun l => 1 <<< l).sum = x.val := by decide +kernel
theorem red_nil (r : Nat) : redS r [] = r := rfl
theorem st_mono (rows : List Nat) (k : Nat) : ∀ j, (stS rows k).1.length ≤ (stS rows (k + j)).1.length
  | 0 => Nat.le_refl _
  | j + 1 => by
    refine Nat.le_trans (st_mono rows k j) ?_
    rw [← Nat.add_assoc, stS_succ]
    unfold stStep
    dsimp only
    split
    · exact Nat.le_refl _
    · show _ ≤ (_ ++ [_]).length
      rw [List.length_append]
      exact Nat.le_add_right _ _
theorem all_quiet {rows : List Nat} (h : Rows rows) (h6 : (stS rows 6).1 = []) : ∀ k, k ≤ 6 → stS rows k = ([], (List.range k).map (2 ^ ·))
  | 0, _ => rfl
  | k + 1, hk => by
    have ih := all_quiet h h6 k (by omega)
    have hm := st_mono rows (k + 1) (6 - (k + 1))
    rw [show k + 1 + (6 - (k + 1)) = 6 by omega, h6] at hm
    rw [stS_succ, ih] at hm ⊢
    unfold stStep at hm ⊢
    dsimp only at hm ⊢
    rw [row_G h (by omega), red_nil, G_low h, G_high h] at hm ⊢
    by_cases hl : gK rows (2 ^ k) 6 = 0
    · rw [if_pos hl, List.range_succ, List.map_append]; rfl
    · rw [if_neg hl] at hm
      exact absurd hm (by simp)
theorem bit_and2 (a b i j : Nat) : a >>> i &&& (b >>> j) &&& 1 = (a.testBit i && b.testBit j).toNat := by
  have := bit_and1 (a >>> i &&& (b >>> j)) 0
  rw [Nat.shiftRight_zero, Nat.testBit_and, Nat.testBit_shiftRight, Nat.testBit_shiftRight] at this
  simpa using this
theorem time_par {rows : List Nat} (p l : Nat) : timeS p rows l ≤ 6 ∧ timeS p rows l % 2 = ((gK rows (p >>> 6) 6).testBit l).toNat := by
  have e : timeS p rows l = ((List.range 6).map fun one => ((p >>> 6).testBit one && rows[one]!.testBit l).toNat).sum := by
    show ((List.range 6).map _).sum = _
    refine congrArg List.sum (List.map_congr_left fun one _ => ?_)
    rw [bit_and2, Nat.testBit_shiftRight, Nat.add_comm 6]
  rw [e]
  exact ⟨sum_le _ 6, by rw [sum_par, gK_bit]⟩
theorem par_sum (heard one : Nat) : parS heard one % 2 = (parB one heard).toNat := by
  have e : parS heard one = ((List.range 6).map fun l => (one.testBit l && heard.testBit l).toNat).sum := by
    show ((List.range 6).map _).sum = _
    refine congrArg List.sum (List.map_congr_left fun l _ => ?_)
    rw [bit_and1, Nat.testBit_and]
  rw [e, sum_par]
  rfl
theorem toNat_eq_one {b : Bool} : b.toNat = 1 ↔ b = true := by cases b <;> simp

theorem alg_ok {roads heard wish : Nat} (hh : heard < 64) (hw : wish < 64) (q4 : (stS (netS roads wish) 6).2.isEmpty = (waysS (netS roads wish) % 2 == 1)) : Alg (netS roads heard) (netS roads wish) heard wish := by
  have hR := (net_rows roads heard).1
  have hD := (net_rows roads wish).1
  have sR := net_sym roads heard
  have sD := net_sym roads wish
  have dR := net_diag roads heard
  have bR := (net_rows roads heard).2
  have bD := (net_rows roads wish).2
  generalize hrows : netS roads heard = rows at *
  generalize hdue : netS roads wish = due at *
  have I := inv_at hR 6 (Nat.le_refl _)
  obtain ⟨c, hc, hcw⟩ := sutner hR sR dR hh
  obtain ⟨m1, m2, m3⟩ := red_im hR hc
  rw [hcw] at m1 m2 m3
  have mem_ker : ∀ s, s ∈ kerS rows ↔ s ∈ madeS (stS rows 6).2 := by
    intro s
    unfold kerS
    rw [List.mem_filter, List.mem_range, mem_made]
    constructor
    · rintro ⟨hs, he⟩
      have := made_six hR.1 hs
      rw [get! (by rw [made_len hR.1]; exact hs)] at this
      rw [Option.some.inj this, beq_iff_eq] at he
      exact (ker_sp hR hs).mp he
    · intro hs
      have h6 := (span_ker I.ker hs)
      refine ⟨h6.1, ?_⟩
      have := made_six hR.1 h6.1
      rw [get! (by rw [made_len hR.1]; exact h6.1)] at this
      rw [Option.some.inj this, h6.2]
      rfl
  have nod : (kerS rows).Nodup := List.nodup_range.filter _
  have xlt : heard ^^^ wish < 64 := Nat.xor_lt_two_pow (n := 6) hh hw
  refine ⟨hR.1, hD.1, Nat.le_trans (stS_len due 6).2 (by decide), (stS_len rows 6).2, made_len hR.1, (List.perm_ext_iff_of_nodup nod I.nodup).mpr mem_ker, ?_, m1, ?_, fun l hl => (time_par _ l).1, fun l hl => ?_, ?_, fun hm => ?_, ?_, ?_, q4, hh, hw, ?_, ?_⟩
  · have hl6 := (stS_len rows 6).2
    rcases Nat.lt_or_ge (stS rows 6).2.length 6 with hlt | hge
    · left
      rw [madeS_len]
      exact Nat.lt_of_le_of_lt (Nat.pow_le_pow_right (by decide) (show (stS rows 6).2.length ≤ 5 by omega)) (by decide)
    · right
      have hlen := I.len
      have h0 : (stS rows 6).1 = [] := List.eq_nil_of_length_eq_zero (by omega)
      have hq := all_quiet hR h0 6 (Nat.le_refl _)
      have hq2 : (stS rows 6).2 = (List.range 6).map (2 ^ ·) := by rw [hq]
      have hm : madeS ((List.range 6).map (2 ^ ·)) = List.range 64 := by decide +kernel
      refine ⟨by rw [madeS_len]; have : (stS rows 6).2.length = 6 := by omega
                 rw [this], ?_⟩
      rw [hq2, hm]
      symm
      unfold kerS
      refine List.filter_eq_self.mpr fun s hs => ?_
      have : s ∈ kerS rows := (mem_ker s).mpr (by rw [hq2, hm]; exact hs)
      exact (List.mem_filter.mp this).2
  · rw [made_six hR.1 m2, m3]
  · rw [(time_par _ l).2, m3, bit_and1, toNat_eq_one]
  · rw [Bool.eq_iff_iff, List.contains_iff_mem, mem_made_six hR.1]
    simp only [Bool.not_eq_true', bne_eq_false_iff_eq]
    constructor
    · intro h0
      exact red_low hR hw (by omega)
    · rintro ⟨d, hd, rfl⟩
      rw [(red_im hR hd).1]; rfl
  · rw [List.contains_iff_mem, mem_made_six hR.1] at hm
    obtain ⟨d, hd, rfl⟩ := hm
    obtain ⟨k1, k2, k3⟩ := red_im hR hd
    rw [made_six hR.1 k2, k3]
  · obtain ⟨s, hs, e⟩ := red_span (stS rows 6).1 wish
    obtain ⟨d, hd, rfl⟩ := span_G I.base hs
    have hg : G rows d < 2 ^ 12 := by
      unfold G
      refine Nat.xor_lt_two_pow (Nat.lt_trans (gK_lt hR d 6 (Nat.le_refl _)) (by decide)) ?_
      rw [Nat.shiftLeft_eq]
      have : d < 64 := hd
      omega
    have h12 : redS wish (stS rows 6).1 < 2 ^ 12 := by
      rw [e]
      exact Nat.xor_lt_two_pow (Nat.lt_trans hw (by decide)) hg
    rw [Nat.shiftRight_eq_div_pow]
    omega
  · rw [Bool.eq_iff_iff, List.contains_iff_mem, mem_made_six hD.1, List.isEmpty_iff, List.filter_eq_nil_iff]
    constructor
    · rintro ⟨d, hd, rfl⟩ q hq
      rw [par_sum, im_perp hD sD hd hq]
      decide
    · intro h0
      refine perp_im hD sD hh fun q hq => ?_
      have := h0 q hq
      rw [par_sum] at this
      cases hb : parB q heard with
      | false => rfl
      | true => rw [hb] at this; exact absurd rfl this
  · have hf : (List.range 6).filter (fun l => rows[l]! != due[l]!) = (List.range 6).filter fun l => (heard ^^^ wish).testBit l := by
      refine List.filter_congr fun l hl => ?_
      have hl6 := List.mem_range.mp hl
      rw [Bool.eq_iff_iff, bne_iff_ne, Nat.testBit_xor]
      constructor
      · intro hne
        cases hx : heard.testBit l ^^ wish.testBit l with
        | true => rfl
        | false =>
          refine absurd (nat_ext64 (hR.2 l hl6) (hD.2 l hl6) fun j hj => ?_) hne
          rw [bR l j hl6 hj, bD l j hl6 hj]
          unfold nb
          split
          · revert hx
            cases heard.testBit l <;> cases wish.testBit l <;> intro hx <;> first | rfl | cases hx
          · rfl
      · intro hx he
        have h1 := bR l l hl6 hl6
        rw [he, bD l l hl6 hl6] at h1
        unfold nb at h1
        rw [if_pos rfl, if_pos rfl] at h1
        rw [h1] at hx
        cases wish.testBit l <;> simp_all
    rw [hf]
    exact sum_fin ⟨heard ^^^ wish, xlt⟩
  · refine List.ext_getElem (by rw [List.length_map, List.length_zipIdx, hR.1, hD.1]) fun l h1 h2 => ?_
    have hl6 : l < 6 := by rw [hD.1] at h2; exact h2
    rw [List.getElem_map, List.getElem_zipIdx]
    have e1 : rows[l]'(by rw [hR.1]; exact hl6) = rows[l]! := by
      have := get! (l := rows) (i := l) (by rw [hR.1]; exact hl6)
      rw [List.getElem?_eq_getElem (by rw [hR.1]; exact hl6)] at this
      exact Option.some.inj this
    have e2 : due[l] = due[l]! := by
      have := get! (l := due) (i := l) h2
      rw [List.getElem?_eq_getElem h2] at this
      exact Option.some.inj this
    dsimp only
    rw [e1, e2, Nat.zero_add]
    have hand : (heard ^^^ wish) &&& (1 <<< l) < 64 := Nat.lt_of_le_of_lt Nat.and_le_left xlt
    refine nat_ext64 (Nat.xor_lt_two_pow (n := 6) (hR.2 l hl6) hand) (hD.2 l hl6) fun j hj => ?_
    rw [Nat.testBit_xor, Nat.testBit_and, Nat.testBit_xor, bR l j hl6 hj, bD l j hl6 hj, Nat.shiftLeft_eq, Nat.one_mul, Nat.testBit_two_pow]
    unfold nb
    by_cases hlj : l = j
    · subst hlj
      rw [if_pos rfl, if_pos rfl, decide_eq_true rfl]
      cases heard.testBit l <;> cases wish.testBit l <;> rfl
    · rw [if_neg hlj, if_neg hlj, decide_eq_false hlj]
      simp
end
section
open PySem
structure BA (β : Type) where
  x : β → β → β
  a : β → β → β
  o : β → β → β
  z : β
  u : β
section
variable {β : Type}
noncomputable def wE (A : BA β) (rl : Nat → β) (l : Nat) (m : List β) (rest : Nat) : β :=
  (List.range l).foldl (fun acc o => if rest.testBit o then A.x acc (A.a (rl o) (m.getD (rest ^^^ 2 ^ o) A.z)) else acc) (A.a (rl l) (m.getD rest A.z))
noncomputable def wB (A : BA β) (r : Nat → Nat → β) : Nat → List β
  | 0 => [A.u]
  | l + 1 => wB A r l ++ (List.range (2 ^ l)).map (wE A (r l) l (wB A r l))
/-- all that the rows make, bit by bit -/
noncomputable def mB (A : BA β) (r : Nat → Nat → β) : Nat → List (List β)
  | 0 => [[A.z, A.z, A.z, A.z, A.z, A.z]]
  | l + 1 => mB A r l ++ (mB A r l).map fun g => List.zipWith A.x g [r l 0, r l 1, r l 2, r l 3, r l 4, r l 5]
noncomputable def orB (A : BA β) (g : List β) : β := g.foldl A.o A.z
/-- no press but the empty one brings about nothing -/
noncomputable def kB (A : BA β) (r : Nat → Nat → β) (l : Nat) : β := ((mB A r l).tail.map (orB A)).foldl A.a A.u
end
noncomputable def natA (n : Nat) : BA Nat := ⟨Nat.xor, Nat.land, Nat.lor, 0, 2 ^ 2 ^ n - 1⟩
noncomputable def dbl (b : Nat) : Nat → Nat → Nat
  | _, 0 => b
  | m, k + 1 => dbl (b ||| (b <<< 2 ^ m)) (m + 1) k
noncomputable def varT (n k : Nat) : Nat := dbl ((2 ^ 2 ^ k - 1) <<< 2 ^ k) (k + 1) (n - (k + 1))
noncomputable def vi (i j : Nat) : Nat := if i = j then i else 6 + (max i j * (max i j - 1) / 2 + min i j)
noncomputable def rT (n : Nat) (f : Nat → Nat → Nat) (i j : Nat) : Nat := varT n (f i j)
noncomputable def wTab : Nat := (wB (natA 21) (rT 21 vi) 6).getD 63 (natA 21).z
noncomputable def kTab : Nat := kB (natA 21) (rT 21 vi) 6
theorem t6 : Nat.beq wTab kTab = true := by kernel_rfl
theorem t6' : wTab = kTab := Nat.eq_of_beq_eq_true t6
/-! the tables of the variables -/
theorem dbl_ok (k : Nat) : ∀ (j b m : Nat), k < m → b < 2 ^ 2 ^ m → (∀ t, t < 2 ^ m → b.testBit t = t.testBit k) → ∀ t, t < 2 ^ (m + j) → (dbl b m j).testBit t = t.testBit k
  | 0, b, m, hk, hb, h, t, ht => h t ht
  | j + 1, b, m, hk, hb, h, t, ht => by
    rw [dbl]
    have e2 : 2 ^ (m + 1) = 2 ^ m + 2 ^ m := by rw [Nat.pow_succ]; omega
    refine dbl_ok k j _ (m + 1) (by omega) ?_ (fun t ht => ?_) t (by rwa [Nat.add_assoc, Nat.add_comm 1])
    · refine Nat.or_lt_two_pow (Nat.lt_of_lt_of_le hb (Nat.pow_le_pow_right (by decide) (Nat.pow_le_pow_right (by decide) (Nat.le_succ m)))) ?_
      rw [Nat.shiftLeft_eq, e2, Nat.pow_add]
      exact Nat.mul_lt_mul_of_pos_right hb (Nat.pow_pos (by decide))
    · rw [Nat.testBit_or, Nat.testBit_shiftLeft]
      by_cases hlt : t < 2 ^ m
      · rw [decide_eq_false (by omega), Bool.false_and, Bool.or_false, h t hlt]
      · rw [decide_eq_true (by omega), Bool.true_and, h (t - 2 ^ m) (by omega)]
        have hbt : b.testBit t = false := Nat.testBit_lt_two_pow (Nat.lt_of_lt_of_le hb (Nat.pow_le_pow_right (by decide) (by omega)))
        rw [hbt, Bool.false_or]
        have et : t = 2 ^ m + (t - 2 ^ m) := by omega
        rw [et, Nat.add_sub_cancel_left, Nat.testBit_two_pow_add_gt hk]
theorem varT_ok {n k : Nat} (hk : k < n) {t : Nat} (ht : t < 2 ^ n) : (varT n k).testBit t = t.testBit k := by
  unfold varT
  have e2 : 2 ^ (k + 1) = 2 ^ k + 2 ^ k := by rw [Nat.pow_succ]; omega
  refine dbl_ok k (n - (k + 1)) _ (k + 1) (by omega) ?_ (fun t ht => ?_) t (by rwa [show k + 1 + (n - (k + 1)) = n by omega])
  · rw [Nat.shiftLeft_eq, e2, Nat.pow_add]
    have := Nat.pow_pos (n := 2 ^ k) (show 0 < 2 by decide)
    exact Nat.mul_lt_mul_of_pos_right (by omega) this
  · rw [Nat.testBit_shiftLeft, Nat.testBit_two_pow_sub_one]
    by_cases hlt : t < 2 ^ k
    · rw [decide_eq_false (by omega), Bool.false_and, Nat.testBit_lt_two_pow hlt]
    · rw [decide_eq_true (by omega), decide_eq_true (by omega)]
      have et : t = 2 ^ k + (t - 2 ^ k) := by omega
      rw [et, Nat.testBit_two_pow_add_eq, Nat.testBit_lt_two_pow (by omega)]
      rfl

/-! a homomorphism goes through -/
structure Hom {β γ : Type} (A : BA β) (B : BA γ) (φ : β → γ) : Prop where
  x : ∀ a b, φ (A.x a b) = B.x (φ a) (φ b)
  a : ∀ a b, φ (A.a a b) = B.a (φ a) (φ b)
  o : ∀ a b, φ (A.o a b) = B.o (φ a) (φ b)
  z : φ A.z = B.z
  u : φ A.u = B.u
section
variable {β γ : Type} {A : BA β} {B : BA γ} {φ : β → γ} (H : Hom A B φ)
include H
theorem getD_map (m : List β) (i : Nat) : φ (m.getD i A.z) = (m.map φ).getD i B.z := by
  rw [List.getD_eq_getElem?_getD, List.getD_eq_getElem?_getD, List.getElem?_map]
  cases m[i]? with
  | none => exact H.z
  | some v => rfl
theorem hom_wE (rl : Nat → β) (l : Nat) (m : List β) (rest : Nat) : φ (wE A rl l m rest) = wE B (fun o => φ (rl o)) l (m.map φ) rest := by
  unfold wE
  generalize List.range l = os
  have h0 : φ (A.a (rl l) (m.getD rest A.z)) = B.a (φ (rl l)) ((m.map φ).getD rest B.z) := by rw [H.a, getD_map H]
  rw [← h0]
  generalize A.a (rl l) (m.getD rest A.z) = acc
  induction os generalizing acc with
  | nil => rfl
  | cons o os ih =>
    rw [List.foldl_cons, List.foldl_cons, ih]
    congr 1
    cases rest.testBit o
    · simp
    · simp only [if_true]
      rw [H.x, H.a, getD_map H]
theorem hom_wB (r : Nat → Nat → β) : ∀ l, (wB A r l).map φ = wB B (fun i j => φ (r i j)) l
  | 0 => by rw [wB, wB, List.map_singleton, H.u]
  | l + 1 => by
    rw [wB, wB, List.map_append, hom_wB r l, List.map_map]
    congr 1
    refine List.map_congr_left fun rest _ => ?_
    show φ (wE A (r l) l (wB A r l) rest) = _
    rw [hom_wE H, hom_wB r l]
theorem hom_zip (g h : List β) : (List.zipWith A.x g h).map φ = List.zipWith B.x (g.map φ) (h.map φ) := by
  induction g generalizing h with
  | nil => rfl
  | cons a g ih =>
    cases h with
    | nil => rfl
    | cons b h => rw [List.zipWith_cons_cons, List.map_cons, List.map_cons, List.map_cons, List.zipWith_cons_cons, H.x, ih]
theorem hom_mB (r : Nat → Nat → β) : ∀ l, (mB A r l).map (List.map φ) = mB B (fun i j => φ (r i j)) l
  | 0 => by rw [mB, mB]; simp [H.z]
  | l + 1 => by
    rw [mB, mB, List.map_append, hom_mB r l, ← hom_mB r l, List.map_map, List.map_map]
    congr 1
    refine List.map_congr_left fun g _ => ?_
    show List.map φ (List.zipWith A.x g _) = _
    rw [hom_zip H]
    rfl
theorem hom_fold (op : β → β → β) (op' : γ → γ → γ) (h : ∀ a b, φ (op a b) = op' (φ a) (φ b)) (l : List β) (s : β) : φ (l.foldl op s) = (l.map φ).foldl op' (φ s) := by
  induction l generalizing s with
  | nil => rfl
  | cons a l ih => rw [List.foldl_cons, List.map_cons, List.foldl_cons, ih, h]
theorem hom_kB (r : Nat → Nat → β) (l : Nat) : φ (kB A r l) = kB B (fun i j => φ (r i j)) l := by
  unfold kB
  rw [hom_fold H _ _ H.a, H.u, ← hom_mB H, List.map_map, ← List.map_tail, List.map_map]
  congr 1
  refine List.map_congr_left fun g _ => ?_
  show φ (orB A g) = orB B (g.map φ)
  unfold orB
  rw [hom_fold H _ _ H.o, H.z]
end
noncomputable def boolA : BA Bool := ⟨Bool.xor, Bool.and, Bool.or, false, true⟩
theorem hom_bit {n t : Nat} (ht : t < 2 ^ n) : Hom (natA n) boolA (fun T => T.testBit t) :=
  ⟨fun a b => Nat.testBit_xor a b t, fun a b => Nat.testBit_and a b t, fun a b => Nat.testBit_or a b t, Nat.zero_testBit t, by
    show (2 ^ 2 ^ n - 1).testBit t = true
    rw [Nat.testBit_two_pow_sub_one, decide_eq_true ht]⟩
theorem vi_lt {i j : Nat} (hi : i < 6) (hj : j < 6) : vi i j < 21 := by
  have : ∀ i j : Fin 6, vi i.val j.val < 21 := by decide +kernel
  exact this ⟨i, hi⟩ ⟨j, hj⟩
/-- for every net: the ways' parity tells whether only the empty press is quiet -/
theorem tab_bool {t : Nat} (ht : t < 2 ^ 21) : (wB boolA (fun i j => (rT 21 vi i j).testBit t) 6).getD 63 false = kB boolA (fun i j => (rT 21 vi i j).testBit t) 6 := by
  have H := hom_bit ht
  have h1 : wTab.testBit t = kTab.testBit t := by rw [t6']
  have h2 : wTab.testBit t = (wB boolA (fun i j => (rT 21 vi i j).testBit t) 6).getD 63 false := by
    rw [← hom_wB H]
    exact getD_map H (wB (natA 21) (rT 21 vi) 6) 63
  have h3 : kTab.testBit t = kB boolA (fun i j => (rT 21 vi i j).testBit t) 6 := hom_kB H (rT 21 vi) 6
  rw [← h2, ← h3, h1]
end
section
open PySem
noncomputable def odd1 (v : Nat) : Bool := v % 2 == 1
theorem odd_add (a b : Nat) : odd1 (a + b) = (odd1 a ^^ odd1 b) := by
  unfold odd1
  rcases Nat.mod_two_eq_zero_or_one a with h | h <;> rcases Nat.mod_two_eq_zero_or_one b with h' | h' <;> simp [Nat.add_mod, h, h']
theorem odd_mul (a b : Nat) : odd1 (a * b) = (odd1 a && odd1 b) := by
  unfold odd1
  rcases Nat.mod_two_eq_zero_or_one a with h | h <;> rcases Nat.mod_two_eq_zero_or_one b with h' | h' <;> simp [Nat.mul_mod, h, h']
theorem odd_toNat (b : Bool) : odd1 b.toNat = b := by cases b <;> rfl
theorem odd_get (m : List Nat) (i : Nat) : odd1 m[i]! = (m.map odd1).getD i false := by
  rw [List.getElem!_eq_getElem?_getD, List.getD_eq_getElem?_getD, List.getElem?_map]
  cases m[i]? <;> rfl
noncomputable def wEnt (row l : Nat) (m : List Nat) (rest : Nat) : Nat := ((row >>> l) &&& 1) * m[rest]! + (pairsS row l m rest).sum
theorem bang_append {m x : List Nat} {i : Nat} (h : i < m.length) : (m ++ x)[i]! = m[i]! := by
  rw [List.getElem!_eq_getElem?_getD, List.getElem!_eq_getElem?_getD, List.getElem?_append_left h]
theorem xor_in {l rest o : Nat} (hr : rest < 2 ^ l) (ho : o < l) : rest ^^^ (1 <<< o) < 2 ^ l := by
  refine Nat.xor_lt_two_pow hr ?_
  rw [Nat.shiftLeft_eq, Nat.one_mul]
  exact Nat.pow_lt_pow_right (by decide) ho
theorem fm_congr {α β : Type} {f g : α → Option β} : ∀ {l : List α}, (∀ a ∈ l, f a = g a) → l.filterMap f = l.filterMap g
  | [], _ => rfl
  | a :: l, h => by rw [List.filterMap_cons, List.filterMap_cons, h a (.head _), fm_congr fun b hb => h b (.tail _ hb)]
theorem wIn_split {row l : Nat} {m : List Nat} (hm : m.length = 2 ^ l) : ∀ j, j ≤ 2 ^ l → wIn row l m j = m ++ (List.range j).map (wEnt row l m)
  | 0, _ => by simp [wIn]
  | j + 1, hj => by
    rw [wIn_succ, wIn_split hm j (by omega), wStep, List.range_succ, List.map_append, ← List.append_assoc]
    congr 1
    rw [List.map_singleton]
    congr 1
    unfold wEnt
    rw [bang_append (by omega)]
    congr 2
    unfold pairsS
    refine fm_congr fun o ho => ?_
    rw [bang_append (by rw [hm]; exact xor_in (by omega) (List.mem_range.mp ho))]
theorem and3 {row rest o : Nat} : (row &&& rest &&& (1 <<< o) ≠ 0) ↔ (row.testBit o = true ∧ rest.testBit o = true) := by
  rw [Nat.shiftLeft_eq, Nat.one_mul, and_pow, Nat.testBit_and, Bool.and_eq_true]
theorem ent_par {row l : Nat} {m : List Nat} {rl : Nat → Bool} (hb : ∀ o, o ≤ l → rl o = row.testBit o) (rest : Nat) : odd1 (wEnt row l m rest) = wE boolA rl l (m.map odd1) rest := by
  unfold wEnt wE pairsS
  have h0 : odd1 ((row >>> l &&& 1) * m[rest]!) = boolA.a (rl l) ((m.map odd1).getD rest boolA.z) := by
    rw [odd_mul, bit_and1, odd_toNat, odd_get, hb l (Nat.le_refl _)]
    rfl
  have hos : ∀ o ∈ List.range l, o < l := fun o ho => List.mem_range.mp ho
  generalize List.range l = os at hos
  rw [← h0]
  generalize (row >>> l &&& 1) * m[rest]! = acc
  induction os generalizing acc with
  | nil => rfl
  | cons o os ih =>
    have ho := hos o (.head _)
    have hos' : ∀ o ∈ os, o < l := fun o h => hos o (.tail _ h)
    rw [List.filterMap_cons, List.foldl_cons]
    by_cases hc : row &&& rest &&& (1 <<< o) ≠ 0
    · rw [if_pos hc]
      dsimp only
      rw [List.sum_cons, ← Nat.add_assoc, ih hos']
      congr 1
      obtain ⟨h1, h2⟩ := and3.mp hc
      rw [odd_add, h2, if_pos rfl, hb o (by omega), h1, odd_get, Nat.shiftLeft_eq, Nat.one_mul]
      rfl
    · rw [if_neg hc]
      dsimp only
      rw [ih hos']
      congr 1
      cases h2 : rest.testBit o with
      | false => rfl
      | true =>
        have h1 : row.testBit o = false := by
          cases h1 : row.testBit o with
          | false => rfl
          | true => exact absurd (and3.mpr ⟨h1, h2⟩) hc
        rw [if_pos rfl, hb o (by omega), h1]
        exact (Bool.xor_false (odd1 acc)).symm
theorem ways_par {rows : List Nat} {r : Nat → Nat → Bool} (hb : ∀ i j, i < 6 → j < 6 → r i j = rows[i]!.testBit j) : ∀ l, l ≤ 6 → (wOut rows l).map odd1 = wB boolA r l
  | 0, _ => rfl
  | l + 1, hl => by
    have ih := ways_par hb l (by omega)
    have hlen : (wOut rows l).length = 2 ^ l := by rw [wOut_len, Nat.shiftLeft_eq, Nat.one_mul]
    rw [wOut_succ, wIn_split hlen _ (by rw [Nat.shiftLeft_eq, Nat.one_mul]; exact Nat.le_refl _), List.map_append, wB, ih, List.map_map, Nat.shiftLeft_eq, Nat.one_mul]
    congr 1
    refine List.map_congr_left fun rest _ => ?_
    show odd1 (wEnt _ _ _ _) = _
    rw [ent_par (rl := r l) (fun o ho => hb l o (by omega) (by omega)), ih]
noncomputable def bits6 (v : Nat) : List Bool := [v.testBit 0, v.testBit 1, v.testBit 2, v.testBit 3, v.testBit 4, v.testBit 5]
theorem made_bits {rows : List Nat} {r : Nat → Nat → Bool} (hl : rows.length = 6) (hb : ∀ i j, i < 6 → j < 6 → r i j = rows[i]!.testBit j) : ∀ l, l ≤ 6 → mB boolA r l = (madeS (rows.take l)).map bits6
  | 0, _ => rfl
  | l + 1, h6 => by
    rw [madeS_take (get! (by omega)), mB, made_bits hl hb l (by omega), List.map_append, List.map_map, List.map_map]
    congr 1
    refine List.map_congr_left fun v _ => ?_
    show List.zipWith Bool.xor (bits6 v) _ = bits6 (v ^^^ rows[l]!)
    unfold bits6
    simp only [Nat.testBit_xor, hb l _ (show l < 6 by omega) (show 0 < 6 by decide), hb l _ (show l < 6 by omega) (show 1 < 6 by decide), hb l _ (show l < 6 by omega) (show 2 < 6 by decide), hb l _ (show l < 6 by omega) (show 3 < 6 by decide), hb l _ (show l < 6 by omega) (show 4 < 6 by decide), hb l _ (show l < 6 by omega) (show 5 < 6 by decide)]
    rfl
theorem or_fin : ∀ v : Fin 64, orB boolA (bits6 v.val) = (v.val != 0) := by decide +kernel
theorem fold_and (l : List Bool) : ∀ s, l.foldl Bool.and s = (s && l.all id) := by
  induction l with
  | nil => intro s; simp
  | cons a l ih => intro s; rw [List.foldl_cons, ih, List.all_cons, id, Bool.and_assoc]
theorem ker_bool {rows : List Nat} {r : Nat → Nat → Bool} (h : Rows rows) (hb : ∀ i j, i < 6 → j < 6 → r i j = rows[i]!.testBit j) : kB boolA r 6 = true ↔ ∀ s, s < 64 → s ≠ 0 → gK rows s 6 ≠ 0 := by
  unfold kB
  rw [made_bits h.1 hb 6 (Nat.le_refl _), List.take_of_length_le (by rw [h.1]; omega)]
  show List.foldl Bool.and true _ = true ↔ _
  rw [fold_and, Bool.true_and, List.all_eq_true]
  have hmk : madeS rows = (List.range 64).map fun s => gK rows s 6 := by
    refine List.ext_getElem? fun s => ?_
    by_cases hs : s < 64
    · rw [made_six h.1 hs, List.getElem?_map, List.getElem?_range hs]; rfl
    · rw [List.getElem?_eq_none (by rw [made_len h.1]; omega), List.getElem?_eq_none (by simp; omega)]
  have htail : (madeS rows).tail = (List.range' 1 63).map fun s => gK rows s 6 := by
    rw [hmk, ← List.map_tail]
    rfl
  have hmem : ∀ b, b ∈ List.map (orB boolA) (List.map bits6 (madeS rows)).tail ↔ ∃ s, 1 ≤ s ∧ s < 64 ∧ b = (gK rows s 6 != 0) := by
    intro b
    rw [← List.map_tail, htail, List.map_map, List.map_map, List.mem_map]
    constructor
    · rintro ⟨s, hs, rfl⟩
      rw [List.mem_range'] at hs
      obtain ⟨i, hi, rfl⟩ := hs
      exact ⟨1 + 1 * i, by omega, by omega, or_fin ⟨_, gK_lt h _ 6 (Nat.le_refl _)⟩⟩
    · rintro ⟨s, h1, h2, rfl⟩
      refine ⟨s, ?_, or_fin ⟨_, gK_lt h _ 6 (Nat.le_refl _)⟩⟩
      rw [List.mem_range']
      exact ⟨s - 1, by omega, by omega⟩
  constructor
  · intro hall s hs h0 he
    have := hall _ ((hmem _).mpr ⟨s, by omega, hs, rfl⟩)
    rw [he] at this
    cases this
  · intro hall b hbm
    obtain ⟨s, h1, h2, rfl⟩ := (hmem b).mp hbm
    have := hall s h2 (by omega)
    simpa using this
theorem quiet_empty {rows : List Nat} (h : Rows rows) : (stS rows 6).2 = [] ↔ ∀ s, s < 64 → s ≠ 0 → gK rows s 6 ≠ 0 := by
  have I := inv_at h 6 (Nat.le_refl _)
  constructor
  · intro he s hs h0 hk
    have := (ker_sp h hs).mp hk
    rw [he] at this
    cases this
    exact h0 rfl
  · intro hall
    have hz : ∀ v ∈ madeS (stS rows 6).2, v = 0 := fun v hv => by
      obtain ⟨h1, h2⟩ := span_ker I.ker (mem_made.mp hv)
      exact Classical.byContradiction fun hn => hall v h1 hn h2
    cases hq : (stS rows 6).2 with
    | nil => rfl
    | cons q r =>
      exfalso
      have hn := I.nodup
      have hl := madeS_len (stS rows 6).2
      rw [hq] at hz hn hl
      have h2 : 2 ≤ (madeS (q :: r)).length := by
        rw [hl, List.length_cons, Nat.pow_succ]
        have := Nat.pow_pos (n := r.length) (show 0 < 2 by decide)
        omega
      generalize madeS (q :: r) = l at *
      match l, h2, hz, hn with
      | a :: b :: l, _, hz, hn =>
        have ha := hz a (.head _)
        have hb := hz b (.tail _ (.head _))
        subst ha; subst hb
        exact absurd rfl ((List.pairwise_cons.mp hn).1 0 (.head _))

theorem net_t {roads wish : Nat} (hw : wish < 64) : ∃ t, t < 2 ^ 21 ∧ ∀ i j, i < 6 → j < 6 → t.testBit (vi i j) = nb roads wish i j := by
  refine ⟨2 ^ 6 * (roads % 2 ^ 15) + wish, ?_, fun i j hi hj => ?_⟩
  · have := Nat.mod_lt roads (show 0 < 2 ^ 15 by decide)
    omega
  · have hv : ∀ k, (2 ^ 6 * (roads % 2 ^ 15) + wish).testBit k = if k < 6 then wish.testBit k else (roads % 2 ^ 15).testBit (k - 6) := fun k => Nat.testBit_two_pow_mul_add _ hw k
    rw [hv]
    unfold vi nb
    by_cases hij : i = j
    · rw [if_pos hij, if_pos hij, if_pos hi]
    · have ht : max i j * (max i j - 1) / 2 + min i j < 15 := by
        have : ∀ i j : Fin 6, i ≠ j → max i.val j.val * (max i.val j.val - 1) / 2 + min i.val j.val < 15 := by decide +kernel
        exact this ⟨i, hi⟩ ⟨j, hj⟩ (fun e => hij (by simpa using e))
      rw [if_neg hij, if_neg hij, if_neg (by omega), Nat.add_sub_cancel_left, Nat.testBit_mod_two_pow, decide_eq_true ht, Bool.true_and]
/-- the ways are odd just when only the empty press is quiet -/
theorem ways_ok {roads wish : Nat} (hw : wish < 64) : (stS (netS roads wish) 6).2.isEmpty = (waysS (netS roads wish) % 2 == 1) := by
  obtain ⟨t, ht, hb⟩ := net_t (roads := roads) hw
  obtain ⟨hD, bD⟩ := net_rows roads wish
  have hr : ∀ i j, i < 6 → j < 6 → (rT 21 vi i j).testBit t = (netS roads wish)[i]!.testBit j := fun i j hi hj => by
    show (varT 21 (vi i j)).testBit t = _
    rw [varT_ok (vi_lt hi hj) ht, hb i j hi hj, bD i j hi hj]
  have h1 := tab_bool ht
  have h2 := ways_par hr 6 (Nat.le_refl _)
  have h3 : odd1 (waysS (netS roads wish)) = (wB boolA (fun i j => (rT 21 vi i j).testBit t) 6).getD 63 false := by
    rw [← h2, ← odd_get]; rfl
  show _ = odd1 _
  rw [h3, h1, Bool.eq_iff_iff, List.isEmpty_iff, quiet_empty hD, ker_bool hD hr]
theorem alg {roads heard wish : Nat} (hh : heard < 64) (hw : wish < 64) : Alg (netS roads heard) (netS roads wish) heard wish := alg_ok hh hw (ways_ok hw)
end
section
open PySem PyProof.Rows PySem.Builtin
/-! strs as lists of codes -/
noncomputable def Lc (s : Str) : List Nat := s.cps.toList
noncomputable def Sc (l : List Nat) : Str := ⟨l.toArray⟩
theorem Lc_Sc (l : List Nat) : Lc (Sc l) = l := by simp [Lc, Sc]
theorem Sc_Lc (s : Str) : Sc (Lc s) = s := by cases s; simp [Lc, Sc]
theorem Lc_inj {a b : Str} (h : Lc a = Lc b) : a = b := by rw [← Sc_Lc a, ← Sc_Lc b, h]
theorem Lc_append (a b : Str) : Lc (a ++ b) = Lc a ++ Lc b := by
  show (a.cps ++ b.cps).toList = _
  simp [Lc]
theorem Lc_C1 (c : Nat) : Lc (C1 c) = [c] := rfl
theorem Lc_len (s : Str) : s.length = (Lc s).length := by simp [Lc, Str.length]
noncomputable def joinL (sep : List Nat) : List (List Nat) → List Nat
  | [] => []
  | [x] => x
  | x :: y :: r => x ++ sep ++ joinL sep (y :: r)
theorem Lc_join (sep : Str) : ∀ ys : List Str, Lc (Str.join sep ys) = joinL (Lc sep) (ys.map Lc)
  | [] => rfl
  | [x] => rfl
  | x :: y :: r => by
    show Lc (x ++ sep ++ Str.join sep (y :: r)) = _
    rw [Lc_append, Lc_append, Lc_join sep (y :: r)]
    rfl
theorem joinL_sep (x : List Nat) : ∀ xs : List (List Nat), joinL [44, 32] (x :: xs) = joinL [44] (x :: xs.map (32 :: ·))
  | [] => rfl
  | y :: r => by
    rw [List.map_cons, joinL, joinL, joinL_sep y r]
    cases r <;> simp [joinL]
theorem joinL_mem {sep : List Nat} {P : Nat → Prop} (hs : ∀ c ∈ sep, P c) : ∀ {l : List (List Nat)}, (∀ x ∈ l, ∀ c ∈ x, P c) → ∀ c ∈ joinL sep l, P c
  | [], _, c, h => nomatch h
  | [x], hl, c, h => hl x (.head _) c h
  | x :: y :: r, hl, c, h => by
    rw [joinL] at h
    rcases List.mem_append.mp h with h | h
    · rcases List.mem_append.mp h with h | h
      · exact hl x (.head _) c h
      · exact hs c h
    · exact joinL_mem hs (fun z hz => hl z (.tail _ hz)) c h
theorem joinL_nil {l : List (List Nat)} : joinL [] l = l.flatten := by
  induction l with
  | nil => rfl
  | cons x r ih =>
    cases r with
    | nil => simp [joinL]
    | cons y r => rw [joinL, ih]; simp

/-! strip -/
theorem sp_fin : (List.range 81).all (fun c => Unicode.isSpace c == (c == 32 || (9 ≤ c && c ≤ 13) || (28 ≤ c && c ≤ 31))) = true := by decide +kernel
theorem sp_no {c : Nat} (h : 33 ≤ c) (h' : c ≤ 80) : Unicode.isSpace c = false := by
  have := List.all_eq_true.mp sp_fin c (List.mem_range.mpr (by omega))
  rw [beq_iff_eq] at this
  rw [this]
  simp
  omega
theorem sp_32 : Unicode.isSpace 32 = true := by decide +kernel
theorem sp_9 : Unicode.isSpace 9 = true := by decide +kernel
theorem takeWhile_all {p : Nat → Bool} : ∀ {l r : List Nat}, (∀ c ∈ l, p c = true) → (r = [] ∨ ∃ a r', r = a :: r' ∧ p a = false) → (l ++ r).takeWhile p = l
  | [], r, _, h => by
    rcases h with rfl | ⟨a, r', rfl, h⟩
    · rfl
    · rw [List.nil_append, List.takeWhile_cons, h]; rfl
  | c :: l, r, hl, h => by
    rw [List.cons_append, List.takeWhile_cons, hl c (.head _)]
    simp only [if_true]
    rw [takeWhile_all (fun d hd => hl d (.tail _ hd)) h]
theorem strip_core {x y : Str} {pre post : List Nat} (hx : Lc x = pre ++ Lc y ++ post) (h1 : ∀ c ∈ pre, Unicode.isSpace c = true) (h2 : ∀ c ∈ post, Unicode.isSpace c = true) {a b : Nat} (ha : (Lc y).head? = some a) (hb : (Lc y).getLast? = some b) (na : Unicode.isSpace a = false) (nb : Unicode.isSpace b = false) : Txt.strip x = y := by
  refine Lc_inj ?_
  unfold Txt.strip
  rw [stripBy_eq]
  show (PySem.Builtin.Str.strSub _ _ _).cps.toList = _
  rw [StrLaws.strSub_toList]
  show ((Lc x).drop _).take _ = _
  obtain ⟨r, hr⟩ : ∃ r, Lc y = a :: r := by
    cases hy : Lc y with
    | nil => rw [hy] at ha; cases ha
    | cons c r => rw [hy] at ha; cases ha; exact ⟨r, rfl⟩
  have hlo : stripLo Unicode.isSpace true x = pre.length := by
    show ((Lc x).takeWhile _).length = _
    rw [hx, List.append_assoc, takeWhile_all h1 (.inr ⟨a, r ++ post, by rw [hr]; rfl, na⟩)]
  obtain ⟨r2, hr2⟩ : ∃ r2, (Lc y).reverse = b :: r2 := by
    have : (Lc y).reverse.head? = some b := by rw [List.head?_reverse]; exact hb
    cases hy : (Lc y).reverse with
    | nil => rw [hy] at this; cases this
    | cons c r => rw [hy] at this; cases this; exact ⟨r, rfl⟩
  have hdrop : (Lc x).drop pre.length = Lc y ++ post := by rw [hx, List.append_assoc, List.drop_left]
  have hhi : stripHi Unicode.isSpace true x pre.length = pre.length + (Lc y).length := by
    show x.length - ((((Lc x).drop pre.length).reverse).takeWhile _).length = _
    rw [hdrop, List.reverse_append, takeWhile_all (fun c hc => h2 c (List.mem_reverse.mp hc)) (.inr ⟨b, r2, hr2, nb⟩), Lc_len, hx]
    simp only [List.length_append, List.length_reverse]
    omega
  rw [hlo, hhi, hdrop, Nat.add_sub_cancel_left, List.take_left]
theorem strip_none {x : Str} (h : ∀ c ∈ Lc x, Unicode.isSpace c = true) : Txt.strip x = "" := by
  refine Lc_inj ?_
  unfold Txt.strip
  rw [stripBy_eq]
  show (PySem.Builtin.Str.strSub _ _ _).cps.toList = _
  rw [StrLaws.strSub_toList]
  show ((Lc x).drop _).take _ = _
  have hlo : stripLo Unicode.isSpace true x = (Lc x).length := by
    show ((Lc x).takeWhile _).length = _
    have := takeWhile_all (r := []) h (.inl rfl)
    rw [List.append_nil] at this
    rw [this]
  rw [hlo, List.drop_length, List.take_nil]
  rfl

/-! the reader, run over lists -/
noncomputable def run (l : List Nat) (st : PSt) : PSt := l.foldl pStep st
theorem run_append (l l' : List Nat) (st : PSt) : run (l ++ l') st = run l' (run l st) := List.foldl_append ..
theorem run_cons (c : Nat) (l : List Nat) (st : PSt) : run (c :: l) st = run l (pStep st c) := rfl
theorem Sc_cons (c : Nat) (l : List Nat) : Sc (c :: l) = C1 c ++ Sc l := Lc_inj (by rw [Lc_append, Lc_Sc, Lc_Sc]; rfl)
theorem app_assoc (a b c : Str) : a ++ b ++ c = a ++ (b ++ c) := Lc_inj (by simp only [Lc_append, List.append_assoc])
theorem app_nil (a : Str) : a ++ Sc [] = a := Lc_inj (by rw [Lc_append, Lc_Sc, List.append_nil])
theorem nil_app (a : Str) : ("" : Str) ++ a = a := Lc_inj (by rw [Lc_append]; rfl)
theorem run_plain : ∀ (l : List Nat) (res : List Str) (p : Str), (∀ c ∈ l, c ≠ 44 ∧ c ≠ 34) → run l ⟨res, p, false, false⟩ = ⟨res, p ++ Sc l, false, false⟩
  | [], res, p, _ => by rw [app_nil]; rfl
  | c :: l, res, p, h => by
    obtain ⟨h1, h2⟩ := h c (.head _)
    rw [run_cons]
    have : pStep ⟨res, p, false, false⟩ c = ⟨res, p ++ C1 c, false, false⟩ := by
      unfold pStep
      simp [h1, h2]
    rw [this, run_plain l _ _ fun d hd => h d (.tail _ hd), Sc_cons, app_assoc]
theorem run_quoted : ∀ (l : List Nat) (res : List Str) (p : Str), (∀ c ∈ l, c ≠ 92 ∧ c ≠ 34) → run l ⟨res, p, false, true⟩ = ⟨res, p ++ Sc l, false, true⟩
  | [], res, p, _ => by rw [app_nil]; rfl
  | c :: l, res, p, h => by
    obtain ⟨h1, h2⟩ := h c (.head _)
    rw [run_cons]
    have : pStep ⟨res, p, false, true⟩ c = ⟨res, p ++ C1 c, false, true⟩ := by
      unfold pStep
      simp [h1, h2]
    rw [this, run_quoted l _ _ fun d hd => h d (.tail _ hd), Sc_cons, app_assoc]
theorem run_escaped : ∀ (l : List Nat) (res : List Str) (p : Str), run (l.flatMap fun c => [92, c]) ⟨res, p, false, true⟩ = ⟨res, p ++ Sc l, false, true⟩
  | [], res, p => by rw [app_nil]; rfl
  | c :: l, res, p => by
    rw [List.flatMap_cons, run_append]
    have : run [92, c] ⟨res, p, false, true⟩ = ⟨res, p ++ C1 c, false, true⟩ := by
      simp [run, pStep]
    rw [this, run_escaped l, Sc_cons, app_assoc]
theorem run_open (res : List Str) (p : Str) : run [34] ⟨res, p, false, false⟩ = ⟨res, p ++ C1 34, false, true⟩ := by
  simp [run, pStep]
theorem run_close (res : List Str) (p : Str) : run [34] ⟨res, p, false, true⟩ = ⟨res, p ++ C1 34, false, false⟩ := by
  simp [run, pStep]
theorem run_comma (res : List Str) (p : Str) : run [44] ⟨res, p, false, false⟩ = ⟨res ++ [p], "", false, false⟩ := by
  simp [run, pStep]

/-- an entry of a header, and what is kept of it -/
noncomputable def Ent (p : List Nat × Str) : Prop := ∀ res : List Str, run p.1 ⟨res, "", false, false⟩ = ⟨res, p.2, false, false⟩
theorem run_join : ∀ (ps : List (List Nat × Str)) (p : List Nat × Str) (res : List Str), (∀ q ∈ p :: ps, Ent q) → ∃ last, (p :: ps).getLast? = some last ∧ run (joinL [44] ((p :: ps).map (·.1))) ⟨res, "", false, false⟩ = ⟨res ++ ((p :: ps).map (·.2)).dropLast, last.2, false, false⟩
  | [], p, res, h => ⟨p, rfl, by
    show run p.1 _ = _
    rw [h p (.head _)]
    simp⟩
  | q :: ps, p, res, h => by
    obtain ⟨last, h1, h2⟩ := run_join ps q (res ++ [p.2]) fun r hr => h r (.tail _ hr)
    refine ⟨last, by rw [← h1]; rfl, ?_⟩
    show run (p.1 ++ [44] ++ joinL [44] ((q :: ps).map (·.1))) _ = _
    rw [run_append, run_append, h p (.head _), run_comma, h2]
    simp [List.dropLast]
theorem drop_last {α : Type} {l : List α} {a : α} (h : l.getLast? = some a) : l.dropLast ++ [a] = l := by
  obtain ⟨ys, rfl⟩ := List.getLast?_eq_some_iff.mp h
  simp
theorem parse_tail {ps : List (List Nat × Str)} (hne : ps ≠ []) (h : ∀ q ∈ ps, Ent q) : pParse (joinL [44] (ps.map (·.1)) ++ [44]) = (ps.map (·.2)).map Txt.strip := by
  cases ps with
  | nil => exact absurd rfl hne
  | cons p ps =>
    obtain ⟨last, h1, h2⟩ := run_join ps p [] h
    unfold pParse
    have e : pRun (joinL [44] ((p :: ps).map (·.1)) ++ [44]) = ⟨(p :: ps).map (·.2), "", false, false⟩ := by
      show run _ _ = _
      rw [run_append, h2, run_comma, List.nil_append]
      have : ((p :: ps).map (·.2)).getLast? = some last.2 := by rw [List.getLast?_map, h1]; rfl
      rw [drop_last this]
    rw [e]
    rfl
theorem parse_end {ps : List (List Nat × Str)} (hne : ps ≠ []) (h : ∀ q ∈ ps, Ent q) (hl : ∀ q ∈ ps, q.2.length ≠ 0) : pParse (joinL [44] (ps.map (·.1))) = (ps.map (·.2)).map Txt.strip := by
  cases ps with
  | nil => exact absurd rfl hne
  | cons p ps =>
    obtain ⟨last, h1, h2⟩ := run_join ps p [] h
    unfold pParse
    have e : pRun (joinL [44] ((p :: ps).map (·.1))) = ⟨((p :: ps).map (·.2)).dropLast, last.2, false, false⟩ := by
      show run _ _ = _
      rw [h2, List.nil_append]
    rw [e]
    have hlast : last.2.length ≠ 0 := hl last (List.mem_of_getLast? h1)
    have : ((p :: ps).map (·.2)).getLast? = some last.2 := by rw [List.getLast?_map, h1]; rfl
    simp only
    rw [if_neg hlast, drop_last this]
end
section
open PySem PyProof.Rows PySem.Builtin
/-- a name's codes -/
noncomputable def Nm (x : Str) : Prop := ∀ c ∈ Lc x, 65 ≤ c ∧ c ≤ 80
theorem plain_nm {l : List Nat} (h : ∀ c ∈ l, 65 ≤ c ∧ c ≤ 80) : ∀ c ∈ l ++ [61], c ≠ 44 ∧ c ≠ 34 := fun c hc => by
  rcases List.mem_append.mp hc with h' | h'
  · have := h c h'; omega
  · rw [List.mem_singleton.mp h']; decide
theorem ent_q {a q : List Nat} (ha : ∀ c ∈ a, c ≠ 44 ∧ c ≠ 34) (hq : ∀ c ∈ q, c ≠ 92 ∧ c ≠ 34) : Ent (a ++ [34] ++ q ++ [34], Sc (a ++ [34] ++ q ++ [34])) := fun res => by
  show run (a ++ [34] ++ q ++ [34]) _ = _
  rw [run_append, run_append, run_append, run_plain a _ _ ha, run_open, run_quoted q _ _ hq, run_close]
  congr 1
  refine Lc_inj ?_
  simp only [Lc_append, Lc_Sc]
  rfl
theorem ent_e {a q : List Nat} (ha : ∀ c ∈ a, c ≠ 44 ∧ c ≠ 34) : Ent (a ++ [34] ++ (q.flatMap fun c => [92, c]) ++ [34], Sc (a ++ [34] ++ q ++ [34])) := fun res => by
  show run (a ++ [34] ++ _ ++ [34]) _ = _
  rw [run_append, run_append, run_append, run_plain a _ _ ha, run_open, run_escaped, run_close]
  congr 1
  refine Lc_inj ?_
  simp only [Lc_append, Lc_Sc]
  rfl
theorem ent_s {a q : List Nat} (ha : ∀ c ∈ a, c ≠ 44 ∧ c ≠ 34) (hq : ∀ c ∈ q, c ≠ 92 ∧ c ≠ 34) : Ent ([32] ++ (a ++ [34] ++ q ++ [34]) ++ [9], Sc ([32] ++ (a ++ [34] ++ q ++ [34]) ++ [9])) := fun res => by
  show run ([32] ++ (a ++ [34] ++ q ++ [34]) ++ [9]) _ = _
  rw [run_append, run_append, run_append, run_append, run_append, run_plain [32] _ _ (by decide), run_plain a _ _ ha, run_open, run_quoted q _ _ hq, run_close, run_plain [9] _ _ (by decide)]
  congr 1
  refine Lc_inj ?_
  simp only [Lc_append, Lc_Sc]
  simp [Lc, C1]
  rfl
theorem ent_p {a : List Nat} (ha : ∀ c ∈ a, c ≠ 44 ∧ c ≠ 34) : Ent (a, Sc a) := fun res => by
  show run a _ = _
  rw [run_plain a _ _ ha, nil_app]

theorem head_ok {x r : List Nat} (h : ∀ c ∈ x, 65 ≤ c ∧ c ≤ 80) : ∃ a, (x ++ 61 :: r).head? = some a ∧ Unicode.isSpace a = false := by
  cases x with
  | nil => exact ⟨61, rfl, sp_no (by decide) (by decide)⟩
  | cons c x => exact ⟨c, rfl, sp_no (by have := h c (.head _); omega) (h c (.head _)).2⟩
theorem last_q {l : List Nat} : (l ++ [34]).getLast? = some 34 := by simp
theorem quote_no : Unicode.isSpace 34 = false := sp_no (by decide) (by decide)
theorem lits : Lc ("=\"" : Str) = [61, 34] ∧ Lc (",\"" : Str) = [44, 34] ∧ Lc ("\"" : Str) = [34] ∧ Lc ("=" : Str) = [61] ∧ Lc ("," : Str) = [44] ∧ Lc (" " : Str) = [32] ∧ Lc ("\t" : Str) = [9] ∧ Lc ("\\" : Str) = [92] ∧ Lc (", " : Str) = [44, 32] ∧ Lc ("" : Str) = [] := by decide +kernel

theorem pre_codes (nms : List Str) (l : Nat) : Lc (preAt nms l) = (Lc (sAt nms l) ++ [61]) ++ [34] ++ (joinL [44] (nms.map Lc) ++ [44]) ++ [34] := by
  obtain ⟨l1, l2, l3, l4, l5, l6, l7, l8, l9, l10⟩ := lits
  unfold preAt
  simp only [Lc_append, Lc_join, l1, l2, l5, List.append_assoc, List.cons_append, List.nil_append]
noncomputable def SdC (c : Nat) : Prop := (65 ≤ c ∧ c ≤ 80) ∨ c = 44 ∨ c = 32
theorem SdC.q {c : Nat} (h : SdC c) : c ≠ 92 ∧ c ≠ 34 := by
  rcases h with h | h | h <;> omega
theorem join_nm {sep : List Nat} (hs : ∀ c ∈ sep, SdC c) {l : List Str} (h : ∀ y ∈ l, Nm y) : ∀ c ∈ joinL sep (l.map Lc), SdC c :=
  joinL_mem hs fun x hx c hc => by
    obtain ⟨y, hy, rfl⟩ := List.mem_map.mp hx
    exact .inl (h y hy c hc)
theorem pre_ent {nms : List Str} {l : Nat} (hn : ∀ y ∈ nms, Nm y) (hl : Nm (sAt nms l)) : Ent (Lc (preAt nms l), preAt nms l) ∧ (preAt nms l).length ≠ 0 ∧ Txt.strip (preAt nms l) = preAt nms l := by
  have e := pre_codes nms l
  have h2 : ∀ c ∈ joinL [44] (nms.map Lc) ++ [44], c ≠ 92 ∧ c ≠ 34 := fun c hc => by
    rcases List.mem_append.mp hc with h | h
    · exact (join_nm (sep := [44]) (fun c hc => by rw [List.mem_singleton.mp hc]; exact .inr (.inl rfl)) hn c h).q
    · rw [List.mem_singleton.mp h]; decide
  refine ⟨?_, by rw [Lc_len, e]; simp, ?_⟩
  · have := ent_q (plain_nm hl) h2
    rw [← e, Sc_Lc] at this
    exact this
  · obtain ⟨a, h1, h2⟩ := head_ok (r := [34] ++ (joinL [44] (nms.map Lc) ++ [44]) ++ [34]) hl
    refine strip_core (pre := []) (post := []) (by simp) (fun c h => nomatch h) (fun c h => nomatch h) (a := a) (b := 34) ?_ (by rw [e]; exact last_q) h2 quote_no
    rw [e, ← h1]
    simp

theorem said_codes {way : Nat} {row : List Str} (hr : ∀ y ∈ row, Nm y) : ∀ c ∈ Lc (saidOf way row), SdC c := by
  obtain ⟨l1, l2, l3, l4, l5, l6, l7, l8, l9, l10⟩ := lits
  unfold saidOf
  split
  · rename_i hb
    unfold bareOf at hb
    simp only [Bool.and_eq_true, beq_iff_eq] at hb
    intro c hc
    exact .inl (hr (sAt row 0) (sAt_mem (by omega)) c hc)
  · intro c hc
    rw [Lc_append] at hc
    rcases List.mem_append.mp hc with h | h
    · split at h
      · rw [Lc_join, l9] at h
        refine join_nm (sep := [44, 32]) (fun c hc => ?_) (fun y hy => hr y (List.mem_reverse.mp hy)) c h
        simp at hc
        rcases hc with rfl | rfl
        · exact .inr (.inl rfl)
        · exact .inr (.inr rfl)
      · rw [Lc_join, l5] at h
        exact join_nm (sep := [44]) (fun c hc => by rw [List.mem_singleton.mp hc]; exact .inr (.inl rfl)) hr c h
    · split at h
      · rw [l10] at h; cases h
      · rw [l5] at h; rw [List.mem_singleton.mp h]; exact .inr (.inl rfl)
theorem item_q {way : Nat} {nm : Str} {row : List Str} (hb : bareOf way row = false) : Lc (itemOf way nm row) = (Lc nm ++ [61]) ++ [34] ++ Lc (saidOf way row) ++ [34] := by
  obtain ⟨l1, l2, l3, l4, l5, l6, l7, l8, l9, l10⟩ := lits
  unfold itemOf
  rw [hb]
  simp only [Bool.false_eq_true, if_false, Lc_append, l1, l3, List.append_assoc, List.cons_append, List.nil_append]
theorem item_b {way : Nat} {nm : Str} {row : List Str} (hb : bareOf way row = true) : Lc (itemOf way nm row) = Lc nm ++ [61] ++ Lc (sAt row 0) ∧ saidOf way row = sAt row 0 ∧ row = [sAt row 0] ∧ sAt row 0 ≠ "" ∧ way = 0 := by
  obtain ⟨l1, l2, l3, l4, l5, l6, l7, l8, l9, l10⟩ := lits
  have hb' := hb
  unfold bareOf at hb'
  simp only [Bool.and_eq_true, beq_iff_eq, bne_iff_ne] at hb'
  obtain ⟨h1, h2, h3⟩ := hb'
  have hs : saidOf way row = sAt row 0 := by unfold saidOf; rw [hb]; rfl
  refine ⟨?_, hs, ?_, h3, h1⟩
  · unfold itemOf
    rw [hb, hs]
    simp only [if_true, Lc_append, l4]
  · match row, h2 with
    | [x], _ => rfl
theorem esc_codes (x : Str) : Lc (Str.join ("" : Str) (escS x)) = (Lc x).flatMap fun c => [92, c] := by
  obtain ⟨l1, l2, l3, l4, l5, l6, l7, l8, l9, l10⟩ := lits
  rw [Lc_join, l10, joinL_nil]
  unfold escS
  rw [List.map_map]
  show (List.map _ (Lc x)).flatten = _
  rw [List.flatMap_def]
  refine congrArg List.flatten (List.map_congr_left fun c _ => ?_)
  show Lc (("\\" : Str) ++ C1 c) = _
  rw [Lc_append, l8]; rfl
theorem writ_ent {way : Nat} {nm : Str} {row : List Str} (hn : Nm nm) (hr : ∀ y ∈ row, Nm y) : ∃ P : Str, Ent (Lc (writOf way nm row), P) ∧ P.length ≠ 0 ∧ Txt.strip P = itemOf way nm row := by
  obtain ⟨l1, l2, l3, l4, l5, l6, l7, l8, l9, l10⟩ := lits
  have hsd := said_codes (way := way) hr
  have hq : ∀ c ∈ Lc (saidOf way row), c ≠ 92 ∧ c ≠ 34 := fun c hc => (hsd c hc).q
  have hP : ∀ {it : List Nat}, Lc (itemOf way nm row) = it → it ≠ [] → Lc (Sc ([32] ++ it ++ [9])) = [32] ++ Lc (itemOf way nm row) ++ [9] := fun h _ => by rw [Lc_Sc, h]
  have sp1 : ∀ c ∈ [32], Unicode.isSpace c = true := fun c hc => by rw [List.mem_singleton.mp hc]; exact sp_32
  have sp2 : ∀ c ∈ [9], Unicode.isSpace c = true := fun c hc => by rw [List.mem_singleton.mp hc]; exact sp_9
  unfold writOf
  by_cases hw : way = 1
  · subst hw
    have hb : bareOf 1 row = false := rfl
    have e := item_q (nm := nm) hb
    refine ⟨itemOf 1 nm row, ?_, by rw [Lc_len, e]; simp, ?_⟩
    · have := ent_e (q := Lc (saidOf 1 row)) (plain_nm hn)
      rw [← e, Sc_Lc] at this
      have e2 : Lc (heldOf 1 nm row) = (Lc nm ++ [61]) ++ [34] ++ ((Lc (saidOf 1 row)).flatMap fun c => [92, c]) ++ [34] := by
        unfold heldOf
        simp only [Lc_append, esc_codes, l1, l3, List.append_assoc, List.cons_append, List.nil_append]
      rw [if_pos (by rfl), e2]
      exact this
    · obtain ⟨a, h1, h2⟩ := head_ok (r := [34] ++ Lc (saidOf 1 row) ++ [34]) hn
      refine strip_core (pre := []) (post := []) (by simp) (fun c h => nomatch h) (fun c h => nomatch h) (a := a) (b := 34) ?_ (by rw [e]; exact last_q) h2 quote_no
      rw [e, ← h1]
      simp
  · rw [if_neg (by simpa using hw)]
    have e2 : Lc ((" " : Str) ++ itemOf way nm row ++ ("\t" : Str)) = [32] ++ Lc (itemOf way nm row) ++ [9] := by simp only [Lc_append, l6, l7]
    cases hb : bareOf way row with
    | false =>
      have e := item_q (nm := nm) hb
      refine ⟨Sc ([32] ++ Lc (itemOf way nm row) ++ [9]), ?_, by rw [Lc_len, Lc_Sc]; simp, ?_⟩
      · rw [e2, e]
        exact ent_s (plain_nm hn) hq
      · obtain ⟨a, h1, h2⟩ := head_ok (r := [34] ++ Lc (saidOf way row) ++ [34]) hn
        refine strip_core (pre := [32]) (post := [9]) (by rw [Lc_Sc]) sp1 sp2 (a := a) (b := 34) ?_ (by rw [e]; exact last_q) h2 quote_no
        rw [e, ← h1]
        simp
    | true =>
      obtain ⟨e, hs, hrow, hne, _⟩ := item_b (nm := nm) hb
      have hn0 : Nm (sAt row 0) := hr _ (by rw [hrow]; exact .head _)
      refine ⟨Sc ([32] ++ Lc (itemOf way nm row) ++ [9]), ?_, by rw [Lc_len, Lc_Sc]; simp, ?_⟩
      · rw [e2]
        refine ent_p fun c hc => ?_
        rw [e] at hc
        simp only [List.mem_append, List.mem_singleton] at hc
        rcases hc with (rfl | ((h | rfl) | h)) | rfl
        · decide
        · have := hn c h; omega
        · decide
        · have := hn0 c h; omega
        · decide
      · obtain ⟨a, h1, h2⟩ := head_ok (r := Lc (sAt row 0)) hn
        have hne' : Lc (sAt row 0) ≠ [] := fun h => hne (Lc_inj (h.trans l10.symm))
        obtain ⟨b, hb2⟩ : ∃ b, (Lc (sAt row 0)).getLast? = some b := by
          cases h : (Lc (sAt row 0)).getLast? with
          | none => exact absurd (List.getLast?_eq_none_iff.mp h) hne'
          | some b => exact ⟨b, rfl⟩
        have hbm := hn0 b (List.mem_of_getLast? hb2)
        refine strip_core (pre := [32]) (post := [9]) (by rw [Lc_Sc]) sp1 sp2 (a := a) (b := b) ?_ ?_ h2 (sp_no (by omega) hbm.2)
        · rw [e, ← h1]; simp
        · rw [e, List.getLast?_append, hb2]; rfl
end
section
open PySem PyProof.Rows PySem.Builtin
theorem build : ∀ (ws : List (Str × Str)), (∀ p ∈ ws, ∃ P : Str, Ent (Lc p.1, P) ∧ P.length ≠ 0 ∧ Txt.strip P = p.2) →
    ∃ ps : List (List Nat × Str), ps.map (·.1) = ws.map (fun p => Lc p.1) ∧ (ps.map (·.2)).map Txt.strip = ws.map (·.2) ∧ ∀ q ∈ ps, Ent q ∧ q.2.length ≠ 0
  | [], _ => ⟨[], rfl, rfl, fun q hq => nomatch hq⟩
  | p :: ws, h => by
    obtain ⟨P, h1, h2, h3⟩ := h p (.head _)
    obtain ⟨ps, e1, e2, e3⟩ := build ws fun q hq => h q (.tail _ hq)
    refine ⟨(Lc p.1, P) :: ps, by rw [List.map_cons, List.map_cons, e1], by rw [List.map_cons, List.map_cons, List.map_cons, e2, h3], fun q hq => ?_⟩
    rcases List.mem_cons.mp hq with rfl | hq
    · exact ⟨h1, h2⟩
    · exact e3 q hq
theorem fm_if {α β : Type} {t : α → Bool} {f : α → β} : ∀ l : List α, l.filterMap (fun a => if t a then some (f a) else none) = (l.filter t).map f
  | [] => rfl
  | a :: l => by
    rw [List.filterMap_cons, List.filter_cons, fm_if l]
    cases t a <;> simp
noncomputable def pairsL (nms : List Str) (lists : List (List Nat)) (ways : List Nat) : List (Str × Str) :=
  ([5, 4, 3, 2, 1, 0].filter fun l => ways[l]! == 2).map (fun l => (preAt nms l, preAt nms l)) ++ (List.range 6).map fun l => (writOf ways[l]! (sAt nms l) (rowAt nms lists[l]!), itemOf ways[l]! (sAt nms l) (rowAt nms lists[l]!))
theorem pairs_fst (nms : List Str) (lists : List (List Nat)) (ways : List Nat) : (pairsL nms lists ways).map (·.1) = writL nms lists ways 6 := by
  unfold pairsL writL written0
  rw [List.map_append, List.map_map, List.map_map, fm_if]
  rfl
theorem pairs_snd (nms : List Str) (lists : List (List Nat)) (ways : List Nat) : (pairsL nms lists ways).map (·.2) = itemL nms lists ways 6 := by
  unfold pairsL itemL written0
  rw [List.map_append, List.map_map, List.map_map, fm_if]
  rfl
section
variable {nms : List Str} {lists : List (List Nat)} {ways : List Nat}
theorem row_nm (hn : ∀ y ∈ nms, Nm y) (h6 : nms.length = 6) {lst : List Nat} (hl : ∀ o ∈ lst, o < 6) : ∀ y ∈ rowAt nms lst, Nm y := fun y hy => by
  obtain ⟨o, ho, rfl⟩ := List.mem_map.mp hy
  exact hn _ (sAt_mem (by have := hl o ho; omega))
theorem header_parse (hn : ∀ y ∈ nms, Nm y) (h6 : nms.length = 6) (hl : ∀ l, l < 6 → ∀ o ∈ lists[l]!, o < 6) (k : Nat) :
    pParse (Lc (Str.join ("," : Str) (writL nms lists ways 6) ++ (if k = 0 then ("" : Str) else ("," : Str)))) = itemL nms lists ways 6 := by
  obtain ⟨l1, l2, l3, l4, l5, l6, l7, l8, l9, l10⟩ := lits
  obtain ⟨ps, e1, e2, e3⟩ := build (pairsL nms lists ways) fun p hp => by
    rcases List.mem_append.mp hp with h | h
    · obtain ⟨l, hl', rfl⟩ := List.mem_map.mp h
      have hl6 : l < 6 := six_lt (List.mem_filter.mp hl').1
      have := pre_ent (l := l) hn (hn _ (sAt_mem (by omega)))
      exact ⟨_, this⟩
    · obtain ⟨l, hl', rfl⟩ := List.mem_map.mp h
      have hl6 := List.mem_range.mp hl'
      exact writ_ent (hn _ (sAt_mem (by omega))) (row_nm hn h6 (hl l hl6))
  have hne : ps ≠ [] := fun h => by
    have := congrArg List.length e1
    rw [h, List.length_map, List.length_map] at this
    unfold pairsL at this
    simp at this
  have ec : Lc (Str.join ("," : Str) (writL nms lists ways 6)) = joinL [44] (ps.map (·.1)) := by
    rw [Lc_join, l5, e1, ← pairs_fst, List.map_map]; rfl
  rw [← pairs_snd, ← e2, Lc_append, ec]
  split
  · rw [l10, List.append_nil]
    exact parse_end hne (fun q hq => (e3 q hq).1) fun q hq => (e3 q hq).2
  · rw [l5]
    exact parse_tail hne fun q hq => (e3 q hq).1

theorem joinL_len : ∀ l : List (List Nat), (joinL [44] l).length ≤ (l.map List.length).sum + l.length
  | [] => by simp [joinL]
  | [x] => by simp [joinL]
  | x :: y :: r => by
    have := joinL_len (y :: r)
    rw [joinL]
    simp only [List.length_append, List.map_cons, List.sum_cons, List.length_cons, List.length_nil] at this ⊢
    omega
theorem sum_bound {α : Type} {f : α → Nat} {b : Nat} : ∀ {l : List α}, (∀ a ∈ l, f a ≤ b) → (l.map f).sum ≤ b * l.length
  | [], _ => by simp
  | a :: l, h => by
    have := sum_bound (l := l) fun c hc => h c (.tail _ hc)
    have := h a (.head _)
    rw [List.map_cons, List.sum_cons, List.length_cons, Nat.mul_succ]
    omega
theorem pre_len (h6 : nms.length = 6) (h4 : ∀ y ∈ nms, y.length ≤ 4) {l : Nat} (hl : l < 6) : (preAt nms l).length ≤ 38 := by
  rw [Lc_len, pre_codes]
  have h1 := h4 _ (sAt_mem (l := nms) (i := l) (by omega))
  have h2 := joinL_len (nms.map Lc)
  have h3 : ((nms.map Lc).map List.length).sum ≤ 4 * nms.length := by
    rw [List.map_map]
    exact sum_bound fun y hy => by show (Lc y).length ≤ 4; rw [← Lc_len]; exact h4 y hy
  rw [Lc_len] at h1
  rw [List.length_map] at h2
  simp only [List.length_append, List.length_cons, List.length_nil]
  omega
theorem writ_len {way : Nat} {nm : Str} {row : List Str} (hn : nm.length ≤ 4) (hr6 : row.length ≤ 6) (hr4 : ∀ y ∈ row, y.length ≤ 4) : (writOf way nm row).length ≤ 87 := by
  obtain ⟨l1, l2, l3, l4, l5, l6, l7, l8, l9, l10⟩ := lits
  have hs := said_len (way := way) hr6 hr4
  rw [Lc_len] at hn hs ⊢
  unfold writOf
  split
  · unfold heldOf
    have e : ((Lc (saidOf way row)).flatMap fun c => [92, c]).length = 2 * (Lc (saidOf way row)).length := by
      generalize Lc (saidOf way row) = l
      induction l with
      | nil => rfl
      | cons a l ih => rw [List.flatMap_cons, List.length_append, ih, List.length_cons]; simp; omega
    simp only [Lc_append, esc_codes, l1, l3, List.length_append, List.length_cons, List.length_nil, e]
    omega
  · unfold itemOf
    split
    · simp only [Lc_append, l4, l6, l7, List.length_append, List.length_cons, List.length_nil]
      omega
    · simp only [Lc_append, l1, l3, l6, l7, List.length_append, List.length_cons, List.length_nil]
      omega
theorem header_len (H : HdrOk nms lists ways) (k : Nat) : ((writL nms lists ways 6).map (·.length)).sum ≤ 750 ∧ (writL nms lists ways 6).length ≤ 12 ∧
    (Lc (Str.join ("," : Str) (writL nms lists ways 6) ++ (if k = 0 then ("" : Str) else ("," : Str)))).length ≤ 900 := by
  obtain ⟨l1, l2, l3, l4, l5, l6, l7, l8, l9, l10⟩ := lits
  have hA : ([5, 4, 3, 2, 1, 0].filter fun l => ways[l]! == 2).length ≤ 6 := List.length_filter_le _ [5, 4, 3, 2, 1, 0]
  have h1 : ((writL nms lists ways 6).map (·.length)).sum ≤ 750 := by
    unfold writL written0
    rw [fm_if, List.map_append, List.sum_append, List.map_map, List.map_map]
    have a1 := sum_bound (f := (·.length) ∘ preAt nms) (b := 38) (l := [5, 4, 3, 2, 1, 0].filter fun l => ways[l]! == 2) (fun l hl => by
      have h6 : l < 6 := six_lt (List.mem_filter.mp hl).1
      exact pre_len H.n6 H.n4 h6)
    have a2 := sum_bound (f := (·.length) ∘ fun l => writOf ways[l]! (sAt nms l) (rowAt nms lists[l]!)) (b := 87) (l := List.range 6) fun l hl => by
      have hl6 := List.mem_range.mp hl
      have hm : lists[l]! ∈ lists := by
        have := getA! (l := lists) (i := l) (by rw [H.l6]; exact hl6)
        exact List.mem_of_getElem? this
      obtain ⟨r1, r2⟩ := row_ok H.n6 H.n4 (H.li _ hm)
      exact writ_len (H.n4 _ (sAt_mem (by rw [H.n6]; exact hl6))) r1 r2
    rw [List.length_range] at a2
    omega
  have h2 : (writL nms lists ways 6).length ≤ 12 := by
    unfold writL written0
    rw [fm_if, List.length_append, List.length_map, List.length_map, List.length_range]
    omega
  refine ⟨h1, h2, ?_⟩
  have h3 := joinL_len ((writL nms lists ways 6).map Lc)
  have h4 : (((writL nms lists ways 6).map Lc).map List.length).sum = ((writL nms lists ways 6).map (·.length)).sum := by
    rw [List.map_map]
    refine congrArg List.sum (List.map_congr_left fun y _ => ?_)
    exact (Lc_len y).symm
  rw [List.length_map] at h3
  rw [Lc_append, List.length_append, Lc_join, l5]
  have h5 : (Lc (if k = 0 then ("" : Str) else ("," : Str))).length ≤ 1 := by
    split
    · rw [l10]; decide
    · rw [l5]; decide
  omega
end
end
section
open PySem PyProof.Rows PySem.Builtin
theorem range_get (l : List Nat) : ∀ j, j ≤ l.length → (List.range j).filterMap (fun k => l[k]?) = l.take j
  | 0, _ => by simp
  | j + 1, h => by
    rw [List.range_succ, List.filterMap_append, range_get l j (by omega), List.take_add_one]
    cases e : l[j]? with
    | none => simp [e]
    | some a => simp [e]
theorem mid_indices (m : Nat) : PySem.Builtin.Str.strSliceIndices (some 1) (some (-1)) 1 (m + 2) = (List.range m).map (· + 1) := by
  unfold PySem.Builtin.Str.strSliceIndices
  simp only [show ((1 : Int) > 0) = True by simp, if_true, show ¬ ((1 : Int) < 0) by decide, if_false, show ((-1 : Int) < 0) by decide]
  have e1 : max (0 : Int) (min 1 ((m + 2 : Nat) : Int)) = 1 := by rw [Int.min_eq_left (by omega), Int.max_eq_right (by decide)]
  have e2 : max (0 : Int) (min (-1 + ((m + 2 : Nat) : Int)) ((m + 2 : Nat) : Int)) = ((m + 1 : Nat) : Int) := by
    rw [show (-1 : Int) + ((m + 2 : Nat) : Int) = ((m + 1 : Nat) : Int) by omega, Int.min_eq_left (Int.ofNat_le.mpr (Nat.le_succ _)), Int.max_eq_right (Int.natCast_nonneg _)]
  rw [e1, e2]
  unfold sliceRange
  have e3 : (if (1 : Int) > 0 then (if (1 : Int) < ((m + 1 : Nat) : Int) then (((m + 1 : Nat) : Int) - 1 + 1 - 1) / 1 else 0) else (if (1 : Int) > ((m + 1 : Nat) : Int) then (1 - ((m + 1 : Nat) : Int) - 1 - 1) / (-1) else 0)).toNat = m := by
    rw [if_pos (by decide), Int.ediv_one]
    split <;> omega
  dsimp only
  rw [e3]
  refine List.map_congr_left fun k _ => ?_
  omega
theorem slice_mid {x : Str} {l : List Nat} (h : Lc x = [34] ++ l ++ [34]) : Txt.slice x (some 1) (some (-1)) = Sc l := by
  have hn : x.length = l.length + 2 := by rw [Lc_len, h]; simp
  unfold Txt.slice
  rw [hn, mid_indices, if_neg (by simp)]
  refine Lc_inj ?_
  show Lc (Sc _) = _
  rw [Lc_Sc, Lc_Sc, List.filterMap_map]
  have e : ∀ k ∈ List.range l.length, ((x.cps[·]?) ∘ (· + 1)) k = l[k]? := fun k hk => by
    have hk' := List.mem_range.mp hk
    show x.cps[k + 1]? = _
    have : x.cps[k + 1]? = (Lc x)[k + 1]? := by simp [Lc]
    rw [this, h, List.append_assoc, List.singleton_append, List.getElem?_cons_succ, List.getElem?_append_left hk']
  rw [fm_congr e, range_get l l.length (Nat.le_refl _), List.take_length]
theorem unq_q {x : Str} {l : List Nat} (h : Lc x = [34] ++ l ++ [34]) : unq x = Sc l := by
  unfold unq
  have h1 : x.cps.toList.head? = some 34 := by show (Lc x).head? = _; rw [h]; rfl
  have h2 : x.cps.toList.getLast? = some 34 := by show (Lc x).getLast? = _; rw [h]; exact last_q
  rw [h1, h2, if_pos (by rfl)]
  exact slice_mid h
theorem unq_b {x : Str} (h : Nm x) : unq x = x := by
  unfold unq
  rw [if_neg]
  intro hh
  rw [Bool.and_eq_true, beq_iff_eq] at hh
  have := h 34 (List.mem_of_mem_head? hh.1)
  omega

/-! the dict's order, told by lamps -/
noncomputable def putN {α : Type} (d : List (Nat × α)) (k : Nat) (v : α) : List (Nat × α) := if d.any (fun p => p.1 == k) then d.map (fun p => if p.1 == k then (p.1, v) else p) else d ++ [(k, v)]
noncomputable def bOf (b0 b1 b2 b3 b4 b5 : Bool) (n : Nat) : Bool := ([b0, b1, b2, b3, b4, b5][n]?).getD false
theorem bOf_eq (b : Nat → Bool) : ∀ n, n < 6 → b n = bOf (b 0) (b 1) (b 2) (b 3) (b 4) (b 5) n
  | 0, _ | 1, _ | 2, _ | 3, _ | 4, _ | 5, _ => rfl
  | n + 6, h => absurd h (Nat.not_lt.mpr (Nat.le_add_left ..))
noncomputable abbrev ordQ {α : Type} (x : α) (s : Nat → α) (b : Nat → Bool) : Prop := ((([5, 4, 3, 2, 1, 0].filter b).map fun l => (l, x)) ++ (List.range 6).map fun l => (l, s l)).foldl (fun d p => putN d p.1 p.2) [] =
    (([5, 4, 3, 2, 1, 0].filter b) ++ (List.range 6).filter fun l => !b l).map fun l => (l, s l)
theorem ord_all {α : Type} (x : α) (s : Nat → α) (b0 b1 b2 b3 b4 b5 : Bool) : ordQ x s (bOf b0 b1 b2 b3 b4 b5) := by
  cases b0 <;> cases b1 <;> cases b2 <;> cases b3 <;> cases b4 <;> cases b5 <;> kernel_rfl
theorem ord_fold {α : Type} (b : Nat → Bool) (x : α) (s : Nat → α) : ((([5, 4, 3, 2, 1, 0].filter b).map fun l => (l, x)) ++ (List.range 6).map fun l => (l, s l)).foldl (fun d p => putN d p.1 p.2) [] =
    (([5, 4, 3, 2, 1, 0].filter b) ++ (List.range 6).filter fun l => !b l).map fun l => (l, s l) := by
  have h1 : [5, 4, 3, 2, 1, 0].filter b = [5, 4, 3, 2, 1, 0].filter (bOf (b 0) (b 1) (b 2) (b 3) (b 4) (b 5)) :=
    List.filter_congr fun n hn => bOf_eq b n ((by decide : ∀ m ∈ [5, 4, 3, 2, 1, 0], m < 6) n hn)
  have h2 : ((List.range 6).filter fun l => !b l) = (List.range 6).filter fun l => !bOf (b 0) (b 1) (b 2) (b 3) (b 4) (b 5) l :=
    List.filter_congr fun n hn => congrArg _ (bOf_eq b n (List.mem_range.mp hn))
  rw [h1, h2]
  exact ord_all x s ..
end
section
open PySem PyProof.Rows PySem.Builtin
noncomputable def itA (nms : List Str) (l : Nat) : Str × Str := (sAt nms l, Sc ([34] ++ (joinL [44] (nms.map Lc) ++ [44]) ++ [34]))
noncomputable def itB (way : Nat) (nm : Str) (row : List Str) : Str × Str := (nm, if bareOf way row then sAt row 0 else Sc ([34] ++ Lc (saidOf way row) ++ [34]))
noncomputable def itsL (nms : List Str) (lists : List (List Nat)) (ways : List Nat) : List (Str × Str) :=
  ([5, 4, 3, 2, 1, 0].filter fun l => ways[l]! == 2).map (itA nms) ++ (List.range 6).map fun l => itB ways[l]! (sAt nms l) (rowAt nms lists[l]!)
theorem Lc_EQ : Lc EQs = [61] := rfl
section
variable {nms : List Str} {lists : List (List Nat)} {ways : List Nat}
theorem itA_eq (l : Nat) : preAt nms l = (itA nms l).1 ++ EQs ++ (itA nms l).2 := Lc_inj (by
  rw [pre_codes, Lc_append, Lc_append, Lc_EQ]
  unfold itA
  rw [Lc_Sc]
  simp)
theorem itB_eq (way : Nat) (nm : Str) (row : List Str) : itemOf way nm row = (itB way nm row).1 ++ EQs ++ (itB way nm row).2 := Lc_inj (by
  rw [Lc_append, Lc_append, Lc_EQ]
  unfold itB
  cases hb : bareOf way row with
  | false =>
    rw [item_q hb]
    simp only [Bool.false_eq_true, if_false, Lc_Sc]
    simp
  | true =>
    rw [(item_b hb).1]
    simp only [if_true])
theorem items_eq : itemL nms lists ways 6 = (itsL nms lists ways).map fun p => p.1 ++ EQs ++ p.2 := by
  unfold itemL written0 itsL
  rw [fm_if, List.map_append, List.map_map, List.map_map]
  congr 1
  · exact List.map_congr_left fun l _ => itA_eq l
  · exact List.map_congr_left fun l _ => itB_eq _ _ _
theorem putN_put {f : Nat → Str} (hinj : ∀ i j, i < 6 → j < 6 → f i = f j → i = j) {d : List (Nat × Str)} (hd : ∀ p ∈ d, p.1 < 6) {k : Nat} (hk : k < 6) (v : Str) :
    put (d.map fun p => (f p.1, p.2)) (f k) v = (putN d k v).map fun p => (f p.1, p.2) := by
  unfold put putN
  have e1 : ∀ p ∈ d, (decide (f p.1 = f k)) = (p.1 == k) := fun p hp => by
    rw [Bool.eq_iff_iff, decide_eq_true_iff, beq_iff_eq]
    exact ⟨hinj _ _ (hd p hp) hk, fun h => by rw [h]⟩
  have e2 : (d.map fun p => (f p.1, p.2)).any (fun p => p.1 = f k) = d.any (fun p => p.1 == k) := by
    rw [List.any_map]
    rw [Bool.eq_iff_iff, List.any_eq_true, List.any_eq_true]
    constructor
    · rintro ⟨p, hp, h⟩
      exact ⟨p, hp, by rw [← e1 p hp]; exact h⟩
    · rintro ⟨p, hp, h⟩
      refine ⟨p, hp, ?_⟩
      show decide (f p.1 = f k) = true
      rw [e1 p hp]; exact h
  rw [e2]
  split
  · rw [List.map_map, List.map_map]
    refine List.map_congr_left fun p hp => ?_
    have := e1 p hp
    show (if f p.1 = f k then (f p.1, v) else (f p.1, p.2)) = _
    by_cases h : p.1 = k
    · rw [if_pos (by rw [h])]
      show _ = (fun p : Nat × Str => (f p.1, p.2)) (if p.1 == k then (p.1, v) else p)
      rw [if_pos (by rw [h]; exact beq_self_eq_true k)]
    · have hf : ¬ f p.1 = f k := fun q => h (hinj _ _ (hd p hp) hk q)
      rw [if_neg hf]
      show _ = (fun p : Nat × Str => (f p.1, p.2)) (if p.1 == k then (p.1, v) else p)
      rw [if_neg (by simpa using h)]
  · rw [List.map_append]; rfl
theorem putN_lt {d : List (Nat × Str)} (hd : ∀ p ∈ d, p.1 < 6) {k : Nat} (hk : k < 6) (v : Str) : ∀ p ∈ putN d k v, p.1 < 6 := by
  unfold putN
  intro p hp
  split at hp
  · obtain ⟨q, hq, rfl⟩ := List.mem_map.mp hp
    split
    · exact hd q hq
    · exact hd q hq
  · rcases List.mem_append.mp hp with h | h
    · exact hd p h
    · rw [List.mem_singleton.mp h]; exact hk
theorem fold_put {f : Nat → Str} (hinj : ∀ i j, i < 6 → j < 6 → f i = f j → i = j) : ∀ (ps d : List (Nat × Str)), (∀ p ∈ ps, p.1 < 6) → (∀ p ∈ d, p.1 < 6) →
    ps.foldl (fun d p => put d (f p.1) p.2) (d.map fun p => (f p.1, p.2)) = (ps.foldl (fun d p => putN d p.1 p.2) d).map fun p => (f p.1, p.2)
  | [], d, _, _ => rfl
  | p :: ps, d, hp, hd => by
    rw [List.foldl_cons, List.foldl_cons, putN_put hinj hd (hp p (.head _)), fold_put hinj ps _ (fun q hq => hp q (.tail _ hq)) (putN_lt hd (hp p (.head _)) _)]
theorem keq_eq (hn : ∀ y ∈ nms, Nm y) (h6 : nms.length = 6) (hl : ∀ l, l < 6 → ∀ o ∈ lists[l]!, o < 6) (hinj : ∀ i j, i < 6 → j < 6 → sAt nms i = sAt nms j → i = j) :
    keqS (itsL nms lists ways) = (ordS ways).map fun l => (sAt nms l, saidOf ways[l]! (rowAt nms lists[l]!)) := by
  have uA : ∀ l, unq (itA nms l).2 = Sc (joinL [44] (nms.map Lc) ++ [44]) := fun l => unq_q (Lc_Sc _)
  have uB : ∀ l, l < 6 → unq (itB ways[l]! (sAt nms l) (rowAt nms lists[l]!)).2 = saidOf ways[l]! (rowAt nms lists[l]!) := by
    intro l hl6
    have hrow := row_nm hn h6 (hl l hl6)
    unfold itB
    cases hb : bareOf ways[l]! (rowAt nms lists[l]!) with
    | false =>
      simp only [Bool.false_eq_true, if_false]
      rw [unq_q (Lc_Sc _), Sc_Lc]
    | true =>
      obtain ⟨_, hs, hr, _, _⟩ := item_b (nm := sAt nms l) hb
      simp only [if_true]
      rw [hs]
      exact unq_b (hrow _ (by rw [hr]; exact .head _))
  have e : keqS (itsL nms lists ways) = ((([5, 4, 3, 2, 1, 0].filter fun l => ways[l]! == 2).map fun l => (l, Sc (joinL [44] (nms.map Lc) ++ [44]))) ++ (List.range 6).map fun l => (l, saidOf ways[l]! (rowAt nms lists[l]!))).foldl (fun d p => put d (sAt nms p.1) p.2) [] := by
    unfold keqS itsL
    rw [List.foldl_append, List.foldl_append, List.foldl_map, List.foldl_map, List.foldl_map, List.foldl_map]
    have g1 : ∀ (ls : List Nat) (d : List (Str × Str)), ls.foldl (fun d l => keqStep d (itA nms l)) d = ls.foldl (fun d l => put d (sAt nms l) (Sc (joinL [44] (nms.map Lc) ++ [44]))) d := by
      intro ls
      induction ls with
      | nil => intro d; rfl
      | cons a ls ih =>
        intro d
        rw [List.foldl_cons, List.foldl_cons, ih]
        unfold keqStep
        rw [uA a]; rfl
    have g2 : ∀ (ls : List Nat), (∀ l ∈ ls, l < 6) → ∀ (d : List (Str × Str)), ls.foldl (fun d l => keqStep d (itB ways[l]! (sAt nms l) (rowAt nms lists[l]!))) d = ls.foldl (fun d l => put d (sAt nms l) (saidOf ways[l]! (rowAt nms lists[l]!))) d := by
      intro ls
      induction ls with
      | nil => intro _ d; rfl
      | cons a ls ih =>
        intro h d
        rw [List.foldl_cons, List.foldl_cons, ih fun l hl => h l (.tail _ hl)]
        unfold keqStep
        rw [uB a (h a (.head _))]; rfl
    rw [g1, g2 _ fun l hl => List.mem_range.mp hl]
  rw [e]
  have := fold_put hinj ((([5, 4, 3, 2, 1, 0].filter fun l => ways[l]! == 2).map fun l => (l, Sc (joinL [44] (nms.map Lc) ++ [44]))) ++ (List.range 6).map fun l => (l, saidOf ways[l]! (rowAt nms lists[l]!))) [] (fun p hp => by
    rcases List.mem_append.mp hp with h | h
    · obtain ⟨l, hl', rfl⟩ := List.mem_map.mp h
      have := (List.mem_filter.mp hl').1
      simp at this
      show l < 6
      omega
    · obtain ⟨l, hl', rfl⟩ := List.mem_map.mp h
      exact List.mem_range.mp hl') (fun p hp => nomatch hp)
  rw [List.map_nil] at this
  rw [this, ord_fold (fun l => ways[l]! == 2), List.map_map]
  rfl
end
end
section
open PySem PyProof.Rows PySem.Builtin
theorem nm_ends {x : Str} (h : Nm x) (hne : x ≠ "") : ∃ a b, (Lc x).head? = some a ∧ (Lc x).getLast? = some b ∧ Unicode.isSpace a = false ∧ Unicode.isSpace b = false := by
  have hne' : Lc x ≠ [] := fun e => hne (Lc_inj (e.trans lits.2.2.2.2.2.2.2.2.2.symm))
  cases hx : Lc x with
  | nil => exact absurd hx hne'
  | cons a r =>
    cases hb : (a :: r).getLast? with
    | none => exact absurd (List.getLast?_eq_none_iff.mp hb) (by simp)
    | some b =>
      have ha := h a (by rw [hx]; exact .head _)
      have hbm := h b (by rw [hx]; exact List.mem_of_getLast? hb)
      exact ⟨a, b, rfl, rfl, sp_no (by omega) ha.2, sp_no (by omega) hbm.2⟩
theorem strip_nm {x : Str} (h : Nm x) : Txt.strip x = x := by
  by_cases hne : x = ""
  · subst hne
    exact strip_none fun c hc => by rw [lits.2.2.2.2.2.2.2.2.2] at hc; cases hc
  · obtain ⟨a, b, h1, h2, h3, h4⟩ := nm_ends h hne
    exact strip_core (pre := []) (post := []) (by simp) (fun c hc => nomatch hc) (fun c hc => nomatch hc) h1 h2 h3 h4
theorem strip_nm1 {x : Str} (h : Nm x) : Txt.strip (Sc (32 :: Lc x)) = x := by
  by_cases hne : x = ""
  · subst hne
    refine strip_none fun c hc => ?_
    rw [Lc_Sc, lits.2.2.2.2.2.2.2.2.2] at hc
    rw [List.mem_singleton.mp hc]; exact sp_32
  · obtain ⟨a, b, h1, h2, h3, h4⟩ := nm_ends h hne
    exact strip_core (pre := [32]) (post := []) (by rw [Lc_Sc]; simp) (fun c hc => by rw [List.mem_singleton.mp hc]; exact sp_32) (fun c hc => nomatch hc) h1 h2 h3 h4
theorem ent_nm {x : Str} (h : Nm x) : Ent (Lc x, x) := by
  have := ent_p (a := Lc x) fun c hc => by have := h c hc; omega
  rwa [Sc_Lc] at this
theorem ent_nm1 {x : Str} (h : Nm x) : Ent (32 :: Lc x, Sc (32 :: Lc x)) := ent_p fun c hc => by
  rcases List.mem_cons.mp hc with rfl | hc
  · decide
  · have := h c hc; omega
/-- a said list, read again -/
theorem said_mem {way : Nat} {row : List Str} (hr : ∀ y ∈ row, Nm y) (c : Str) : c ∈ pParse (Lc (saidOf way row)) ↔ c ∈ row := by
  obtain ⟨l1, l2, l3, l4, l5, l6, l7, l8, l9, l10⟩ := lits
  cases hb : bareOf way row with
  | true =>
    obtain ⟨_, hs, hrow, hne, _⟩ := item_b (nm := "") hb
    have hn0 : Nm (sAt row 0) := hr _ (by rw [hrow]; exact .head _)
    have hlen : (sAt row 0).length ≠ 0 := by
      rw [Lc_len]
      intro h
      exact hne (Lc_inj ((List.eq_nil_of_length_eq_zero h).trans l10.symm))
    have hp := parse_end (ps := [(Lc (sAt row 0), sAt row 0)]) (by simp) (fun q hq => by rw [List.mem_singleton.mp hq]; exact ent_nm hn0) (fun q hq => by rw [List.mem_singleton.mp hq]; exact hlen)
    have hj : joinL [44] ([(Lc (sAt row 0), sAt row 0)].map (·.1)) = Lc (sAt row 0) := rfl
    rw [hj] at hp
    rw [hs, hp]
    show c ∈ [Txt.strip (sAt row 0)] ↔ _
    rw [strip_nm hn0, ← hrow]
  | false =>
    unfold saidOf
    rw [hb]
    simp only [Bool.false_eq_true, if_false]
    cases row with
    | nil =>
      have e : Lc ((if (way == 3) = true then Str.join (", " : Str) ([] : List Str).reverse else Str.join ("," : Str) []) ++ (if min 1 ([] : List Str).length = 0 then ("" : Str) else ("," : Str))) = [] := by
        rw [Lc_append]
        split <;> rfl
      rw [e]
      exact ⟨(fun h => nomatch h), (fun h => nomatch h)⟩
    | cons r0 rest =>
      have hm : ¬ min 1 (r0 :: rest).length = 0 := by simp
      rw [if_neg hm, Lc_append, l5]
      by_cases hw : (way == 3) = true
      · rw [if_pos hw, Lc_join, l9]
        have hrev : ∀ y ∈ (r0 :: rest).reverse, Nm y := fun y hy => hr y (List.mem_reverse.mp hy)
        cases hq : (r0 :: rest).reverse with
        | nil =>
          have := congrArg List.length hq
          simp at this
        | cons a t =>
          rw [hq] at hrev
          rw [List.map_cons, joinL_sep]
          have hp := parse_tail (ps := (Lc a, a) :: t.map fun y => (32 :: Lc y, Sc (32 :: Lc y))) (by simp) (fun q hq => by
            rcases List.mem_cons.mp hq with rfl | hq
            · exact ent_nm (hrev a (.head _))
            · obtain ⟨y, hy, rfl⟩ := List.mem_map.mp hq
              exact ent_nm1 (hrev y (.tail _ hy)))
          have e1 : ((Lc a, a) :: t.map fun y => (32 :: Lc y, Sc (32 :: Lc y))).map (·.1) = Lc a :: (t.map Lc).map (32 :: ·) := by
            rw [List.map_cons, List.map_map, List.map_map]; rfl
          have e2 : (((Lc a, a) :: t.map fun y => (32 :: Lc y, Sc (32 :: Lc y))).map (·.2)).map Txt.strip = a :: t := by
            rw [List.map_cons, List.map_cons, List.map_map, List.map_map, strip_nm (hrev a (.head _))]
            congr 1
            have : ∀ y ∈ t, (Txt.strip ∘ (fun p : List Nat × Str => p.2) ∘ fun y => (32 :: Lc y, Sc (32 :: Lc y))) y = y := fun y hy => strip_nm1 (hrev y (.tail _ hy))
            exact (List.map_congr_left this).trans (List.map_id' t)
          rw [e1, e2] at hp
          rw [hp, ← hq, List.mem_reverse]
      · rw [if_neg hw, Lc_join, l5]
        have hp := parse_tail (ps := (r0 :: rest).map fun y => (Lc y, y)) (by simp) (fun q hq => by
          obtain ⟨y, hy, rfl⟩ := List.mem_map.mp hq
          exact ent_nm (hr y hy))
        have e1 : ((r0 :: rest).map fun y => (Lc y, y)).map (·.1) = (r0 :: rest).map Lc := by rw [List.map_map]; rfl
        have e2 : (((r0 :: rest).map fun y => (Lc y, y)).map (·.2)).map Txt.strip = r0 :: rest := by
          rw [List.map_map, List.map_map]
          have : ∀ y ∈ r0 :: rest, (Txt.strip ∘ (fun p : List Nat × Str => p.2) ∘ fun y => (Lc y, y)) y = y := fun y hy => strip_nm (hr y hy)
          exact (List.map_congr_left this).trans (List.map_id' _)
        rw [e1, e2] at hp
        rw [hp]
end
section
open PySem PyProof.Rows PySem.Builtin
theorem set_bang {R : List Nat} {a v i : Nat} (ha : a < R.length) : (R.set a v)[i]! = if a = i then v else R[i]! := by
  rw [List.getElem!_eq_getElem?_getD, List.getElem!_eq_getElem?_getD, List.getElem?_set]
  by_cases h : a = i
  · subst h
    rw [if_pos rfl, if_pos rfl, if_pos ha]; rfl
  · rw [if_neg h, if_neg h]
theorem one_bit (k j : Nat) : (1 <<< k).testBit j = decide (k = j) := by rw [Nat.shiftLeft_eq, Nat.one_mul, Nat.testBit_two_pow]
theorem tell_bit {R : List Nat} {a b : Nat} (hR : R.length = 6) (ha : a < 6) (hb : b < 6) (i j : Nat) :
    ((tellStep a R b)[i]!.testBit j = true ↔ R[i]!.testBit j = true ∨ (i = a ∧ j = b) ∨ (i = b ∧ j = a)) := by
  unfold tellStep
  dsimp only
  rw [set_bang (by rw [List.length_set]; omega)]
  by_cases h : b = i
  · subst h
    rw [if_pos rfl, Nat.testBit_or, set_bang (by omega), one_bit]
    by_cases h2 : a = b
    · subst h2
      rw [if_pos rfl, Nat.testBit_or, one_bit]
      simp only [Bool.or_eq_true, decide_eq_true_iff, true_and]
      constructor
      · rintro ((h | h) | h)
        · exact .inl h
        · exact .inr (.inl h.symm)
        · exact .inr (.inl h.symm)
      · rintro (h | h | h)
        · exact .inl (.inl h)
        · exact .inl (.inr h.symm)
        · exact .inl (.inr h.symm)
    · rw [if_neg h2]
      simp only [Bool.or_eq_true, decide_eq_true_iff, true_and]
      constructor
      · rintro (h | h)
        · exact .inl h
        · exact .inr (.inr h.symm)
      · rintro (h | ⟨h, _⟩ | h)
        · exact .inl h
        · exact absurd h.symm h2
        · exact .inr h.symm
  · rw [if_neg h, set_bang (by omega)]
    by_cases h2 : a = i
    · subst h2
      rw [if_pos rfl, Nat.testBit_or, one_bit]
      simp only [Bool.or_eq_true, decide_eq_true_iff, true_and]
      constructor
      · rintro (h' | h')
        · exact .inl h'
        · exact .inr (.inl h'.symm)
      · rintro (h' | h' | ⟨h', _⟩)
        · exact .inl h'
        · exact .inr h'.symm
        · exact absurd h'.symm h
    · rw [if_neg h2]
      constructor
      · exact .inl
      · rintro (h' | ⟨h', _⟩ | ⟨h', _⟩)
        · exact h'
        · exact absurd h'.symm h2
        · exact absurd h'.symm h
theorem tell_lt {R : List Nat} {a b : Nat} (hR : R.length = 6) (ha : a < 6) (hb : b < 6) (h : ∀ i : Nat, R[i]! < 64) (i : Nat) : (tellStep a R b)[i]! < 64 := by
  have one : ∀ k, k < 6 → 1 <<< k < 2 ^ 6 := fun k hk => by rw [Nat.shiftLeft_eq, Nat.one_mul]; exact Nat.pow_lt_pow_right (by decide) hk
  have orl : ∀ x y, x < 2 ^ 6 → y < 2 ^ 6 → x ||| y < 2 ^ 6 := fun x y => Nat.or_lt_two_pow
  unfold tellStep
  dsimp only
  have h1 : ∀ i : Nat, (R.set a (R[a]! ||| 1 <<< b))[i]! < 64 := fun i => by
    rw [set_bang (by omega)]
    split
    · exact orl _ _ (h a) (one b hb)
    · exact h i
  rw [set_bang (by rw [List.length_set]; omega)]
  split
  · exact orl _ _ (h1 b) (one a ha)
  · exact h1 i
theorem tellIn_bit {nms : List Str} {a : Nat} (ha : a < 6) : ∀ (cs : List Str) (R : List Nat), R.length = 6 → (∀ c ∈ cs, idx nms c < 6) → (∀ i : Nat, R[i]! < 64) →
    (∀ i : Nat, (tellIn nms a R cs)[i]! < 64) ∧ ∀ i j : Nat, ((tellIn nms a R cs)[i]!.testBit j = true ↔ R[i]!.testBit j = true ∨ ∃ c ∈ cs, (i = a ∧ j = idx nms c) ∨ (i = idx nms c ∧ j = a))
  | [], R, _, _, h => ⟨h, fun i j => ⟨.inl, fun q => q.elim id fun ⟨c, hc, _⟩ => nomatch hc⟩⟩
  | c :: cs, R, hR, hc, h => by
    have hb := hc c (.head _)
    obtain ⟨h1, h2⟩ := tellIn_bit ha cs (tellStep a R (idx nms c)) (by rw [tellStep_len, hR]) (fun d hd => hc d (.tail _ hd)) (tell_lt hR ha hb h)
    refine ⟨h1, fun i j => ?_⟩
    show (tellIn nms a (tellStep a R (idx nms c)) cs)[i]!.testBit j = true ↔ _
    rw [h2, tell_bit hR ha hb]
    constructor
    · rintro ((h | h) | ⟨d, hd, h⟩)
      · exact .inl h
      · exact .inr ⟨c, .head _, h⟩
      · exact .inr ⟨d, .tail _ hd, h⟩
    · rintro (h | ⟨d, hd, h⟩)
      · exact .inl (.inl h)
      · rcases List.mem_cons.mp hd with rfl | hd
        · exact .inl (.inr h)
        · exact .inr ⟨d, hd, h⟩
theorem read_bit {nms : List Str} : ∀ (l : List (Str × Str)) (R : List Nat), R.length = 6 → (∀ p ∈ l, idx nms p.1 < 6 ∧ ∀ c ∈ pParse p.2.cps.toList, idx nms c < 6) → (∀ i : Nat, R[i]! < 64) →
    (∀ i : Nat, (l.foldl (fun R p => tellIn nms (idx nms p.1) R (pParse p.2.cps.toList)) R)[i]! < 64) ∧
    ∀ i j : Nat, ((l.foldl (fun R p => tellIn nms (idx nms p.1) R (pParse p.2.cps.toList)) R)[i]!.testBit j = true ↔ R[i]!.testBit j = true ∨ ∃ p ∈ l, ∃ c ∈ pParse p.2.cps.toList, (i = idx nms p.1 ∧ j = idx nms c) ∨ (i = idx nms c ∧ j = idx nms p.1))
  | [], R, _, _, h => ⟨h, fun i j => ⟨.inl, fun q => q.elim id fun ⟨c, hc, _⟩ => nomatch hc⟩⟩
  | p :: l, R, hR, hp, h => by
    obtain ⟨ha, hc⟩ := hp p (.head _)
    obtain ⟨k1, k2⟩ := tellIn_bit ha (pParse p.2.cps.toList) R hR hc h
    obtain ⟨h1, h2⟩ := read_bit l (tellIn nms (idx nms p.1) R (pParse p.2.cps.toList)) (by rw [tellIn_len, hR]) (fun q hq => hp q (.tail _ hq)) k1
    refine ⟨h1, fun i j => ?_⟩
    rw [List.foldl_cons, h2, k2]
    constructor
    · rintro ((h | ⟨c, hc, h⟩) | ⟨q, hq, h⟩)
      · exact .inl h
      · exact .inr ⟨p, .head _, c, hc, h⟩
      · exact .inr ⟨q, .tail _ hq, h⟩
    · rintro (h | ⟨q, hq, c, hcm, h⟩)
      · exact .inl (.inl h)
      · rcases List.mem_cons.mp hq with rfl | hq
        · exact .inl (.inr ⟨c, hcm, h⟩)
        · exact .inr ⟨q, hq, c, hcm, h⟩

theorem idx_name {nms : List Str} (h6 : nms.length = 6) (hinj : ∀ i j, i < 6 → j < 6 → sAt nms i = sAt nms j → i = j) {o : Nat} (ho : o < 6) : idx (nms ++ nms) (sAt nms o) = o := by
  unfold idx
  rw [List.findIdx_eq (by rw [List.length_append]; omega)]
  have hget : ∀ (i : Nat) (hi : i < (nms ++ nms).length), i < 6 → (nms ++ nms)[i] = sAt nms i := fun i hi h => by
    have := sAt_is (l := nms) (i := i) (by omega)
    rw [List.getElem_append_left (by omega)]
    rw [List.getElem?_eq_getElem (by omega)] at this
    exact Option.some.inj this
  refine ⟨by rw [hget _ _ ho]; exact beq_self_eq_true _, fun j hj => ?_⟩
  rw [hget _ _ (by omega)]
  exact beq_false_of_ne fun e => absurd (hinj _ _ (by omega) ho e) (by omega)
theorem mem_ordS {ways : List Nat} {l : Nat} : l ∈ ordS ways ↔ l < 6 := by
  refine ⟨ordS_lt l, fun h => ?_⟩
  rw [List.mem_append, List.mem_filter, List.mem_filter, List.mem_range]
  cases hb : (ways[l]! == 2) with
  | true =>
    left
    refine ⟨?_, rfl⟩
    simp
    omega
  | false => exact .inr ⟨h, by rw [bne, hb]; rfl⟩
theorem telS_comm (t a b : Nat) : telS t a b = telS t b a := by unfold telS; rw [Nat.max_comm, Nat.min_comm]
theorem told_iff {rows : List Nat} {tells : Nat} (hs : Sym rows) {i j : Nat} (hi : i < 6) (hj : j < 6) :
    (rows[i]!.testBit j = true ↔ toldB rows[i]! tells i j = true ∨ toldB rows[j]! tells j i = true) := by
  have hb : ∀ v k : Nat, ((v >>> k) &&& 1 == 1) = v.testBit k := fun v k => by rw [bit_and1]; cases v.testBit k <;> rfl
  unfold toldB
  rw [hb, hb, hs j i hj hi, telS_comm tells j i]
  generalize rows[i]!.testBit j = b
  have ht : telS tells i j < 3 := Nat.mod_lt _ (by decide)
  generalize telS tells i j = t at ht
  cases b with
  | false => simp
  | true =>
    simp only [Bool.true_and, true_iff]
    by_cases he : i = j
    · subst he; left; simp
    · match t, ht with
      | 0, _ =>
        rcases Nat.lt_or_ge i j with h | h
        · left; simp; right; omega
        · right; simp; right; omega
      | 1, _ =>
        rcases Nat.lt_or_ge i j with h | h
        · right; simp; right; omega
        · left; simp; right; omega
      | 2, _ => left; simp
theorem read_rows {nms : List Str} {rows ways : List Nat} {tells : Nat} (hn : ∀ y ∈ nms, Nm y) (h6 : nms.length = 6) (hinj : ∀ i j, i < 6 → j < 6 → sAt nms i = sAt nms j → i = j) (hR : Rows rows) (hs : Sym rows) :
    (∀ p ∈ (ordS ways).map (fun l => (sAt nms l, saidOf ways[l]! (rowAt nms (listsS rows tells 6)[l]!))), p.1 ∈ nms ++ nms ∧ idx (nms ++ nms) p.1 < 6 ∧ ∀ c ∈ pParse p.2.cps.toList, c ∈ nms ++ nms ∧ idx (nms ++ nms) c < 6) ∧
    readS (nms ++ nms) ((ordS ways).map fun l => (sAt nms l, saidOf ways[l]! (rowAt nms (listsS rows tells 6)[l]!))) = rows := by
  have hlist : ∀ l, l < 6 → (listsS rows tells 6)[l]! = listS rows tells l := fun l hl => by
    unfold listsS
    rw [List.getElem!_eq_getElem?_getD, List.getElem?_map, List.getElem?_range hl]; rfl
  have hmem : ∀ l o, l < 6 → (o ∈ (listsS rows tells 6)[l]! ↔ o < 6 ∧ toldB rows[l]! tells l o = true) := fun l o hl => by
    rw [hlist l hl]
    unfold listS
    rw [List.mem_filter, List.mem_range]
  have hlt : ∀ l, l < 6 → ∀ o ∈ (listsS rows tells 6)[l]!, o < 6 := fun l hl o ho => ((hmem l o hl).mp ho).1
  have hcall : ∀ l, l < 6 → ∀ c, c ∈ pParse (saidOf ways[l]! (rowAt nms (listsS rows tells 6)[l]!)).cps.toList ↔ ∃ o, o ∈ (listsS rows tells 6)[l]! ∧ c = sAt nms o := fun l hl c => by
    have := said_mem (way := ways[l]!) (row_nm hn h6 (hlt l hl)) c
    rw [show Lc (saidOf ways[l]! (rowAt nms (listsS rows tells 6)[l]!)) = (saidOf ways[l]! (rowAt nms (listsS rows tells 6)[l]!)).cps.toList from rfl] at this
    rw [this]
    unfold rowAt
    rw [List.mem_map]
    exact ⟨fun ⟨o, ho, e⟩ => ⟨o, ho, e.symm⟩, fun ⟨o, ho, e⟩ => ⟨o, ho, e.symm⟩⟩
  have part1 : ∀ p ∈ (ordS ways).map (fun l => (sAt nms l, saidOf ways[l]! (rowAt nms (listsS rows tells 6)[l]!))), p.1 ∈ nms ++ nms ∧ idx (nms ++ nms) p.1 < 6 ∧ ∀ c ∈ pParse p.2.cps.toList, c ∈ nms ++ nms ∧ idx (nms ++ nms) c < 6 := by
    intro p hp
    obtain ⟨l, hl, rfl⟩ := List.mem_map.mp hp
    have hl6 := mem_ordS.mp hl
    refine ⟨List.mem_append_left _ (sAt_mem (by omega)), by rw [idx_name h6 hinj hl6]; exact hl6, fun c hc => ?_⟩
    obtain ⟨o, ho, rfl⟩ := (hcall l hl6 c).mp hc
    have ho6 := hlt l hl6 o ho
    exact ⟨List.mem_append_left _ (sAt_mem (by omega)), by rw [idx_name h6 hinj ho6]; exact ho6⟩
  refine ⟨part1, ?_⟩
  have z64 : ∀ i : Nat, ([0, 0, 0, 0, 0, 0] : List Nat)[i]! < 64 ∧ ([0, 0, 0, 0, 0, 0] : List Nat)[i]! = 0 := fun i => by
    have : ([0, 0, 0, 0, 0, 0] : List Nat)[i]! = 0 := by
      match i with
      | 0 | 1 | 2 | 3 | 4 | 5 => rfl
      | k + 6 => rfl
    exact ⟨by rw [this]; decide, this⟩
  obtain ⟨k1, k2⟩ := read_bit (nms := nms ++ nms) ((ordS ways).map fun l => (sAt nms l, saidOf ways[l]! (rowAt nms (listsS rows tells 6)[l]!))) [0, 0, 0, 0, 0, 0] rfl (fun p hp => ⟨(part1 p hp).2.1, fun c hc => ((part1 p hp).2.2 c hc).2⟩) fun i => (z64 i).1
  have hlen := readS_len (nms ++ nms) ((ordS ways).map fun l => (sAt nms l, saidOf ways[l]! (rowAt nms (listsS rows tells 6)[l]!)))
  refine List.ext_getElem (by rw [hlen, hR.1]) fun i h1 h2 => ?_
  have hi : i < 6 := by rw [hR.1] at h2; exact h2
  have b1 : ∀ {L : List Nat} (h : i < L.length), L[i] = L[i]! := fun {L} h => by
    rw [List.getElem!_eq_getElem?_getD, List.getElem?_eq_getElem h]; rfl
  rw [b1 h1, b1 h2]
  refine nat_ext64 (k1 i) (hR.2 i hi) fun j hj => ?_
  rw [Bool.eq_iff_iff]
  refine (k2 i j).trans ?_
  rw [(z64 i).2, Nat.zero_testBit, told_iff (tells := tells) hs hi hj]
  constructor
  · rintro (h | ⟨p, hp, c, hc, h⟩)
    · cases h
    · obtain ⟨l, hl, rfl⟩ := List.mem_map.mp hp
      have hl6 := mem_ordS.mp hl
      obtain ⟨o, ho, rfl⟩ := (hcall l hl6 c).mp hc
      have ho6 := hlt l hl6 o ho
      rw [idx_name h6 hinj hl6, idx_name h6 hinj ho6] at h
      have ht := ((hmem l o hl6).mp ho).2
      rcases h with ⟨rfl, rfl⟩ | ⟨rfl, rfl⟩
      · exact .inl ht
      · exact .inr ht
  · intro h
    right
    have mk : ∀ l o, l < 6 → o < 6 → toldB rows[l]! tells l o = true → ∃ p ∈ (ordS ways).map (fun l => (sAt nms l, saidOf ways[l]! (rowAt nms (listsS rows tells 6)[l]!))), ∃ c ∈ pParse p.2.cps.toList, idx (nms ++ nms) p.1 = l ∧ idx (nms ++ nms) c = o := by
      intro l o hl ho ht
      exact ⟨_, List.mem_map.mpr ⟨l, mem_ordS.mpr hl, rfl⟩, sAt nms o, (hcall l hl _).mpr ⟨o, (hmem l o hl).mpr ⟨ho, ht⟩, rfl⟩, idx_name h6 hinj hl, idx_name h6 hinj ho⟩
    rcases h with h | h
    · obtain ⟨p, hp, c, hc, e1, e2⟩ := mk i j hi hj h
      exact ⟨p, hp, c, hc, .inl ⟨e1.symm, e2.symm⟩⟩
    · obtain ⟨p, hp, c, hc, e1, e2⟩ := mk j i hj hi h
      exact ⟨p, hp, c, hc, .inr ⟨e2.symm, e1.symm⟩⟩
end
section
open PySem PyProof.Rows PySem.Builtin
noncomputable def cod (c p : Nat) : Nat := 65 + c / 16 ^ p % 16
theorem name_codes (c : Nat) : Lc (nameS c) = ([3, 2, 1, 0].filter fun p => decide (16 ^ p ≤ c)).map (cod c) := by
  unfold nameS digS
  rw [Lc_join, lits.2.2.2.2.2.2.2.2.2, joinL_nil, List.map_map]
  generalize [3, 2, 1, 0].filter (fun p => decide (16 ^ p ≤ c)) = l
  induction l with
  | nil => rfl
  | cons a l ih => rw [List.map_cons, List.flatten_cons, ih, List.map_cons]; rfl
/-- the number of digits -/
noncomputable def nd (c : Nat) : Nat := if c < 1 then 0 else if c < 16 then 1 else if c < 256 then 2 else if c < 4096 then 3 else 4
theorem name_is {c : Nat} (h : c < 65536) : Lc (nameS c) = ((List.range (nd c)).reverse).map (cod c) := by
  rw [name_codes]
  unfold nd
  have p3 : (16 : Nat) ^ 3 = 4096 := rfl
  have p2 : (16 : Nat) ^ 2 = 256 := rfl
  have p1 : (16 : Nat) ^ 1 = 16 := rfl
  have p0 : (16 : Nat) ^ 0 = 1 := rfl
  simp only [List.filter_cons, List.filter_nil, p3, p2, p1, p0, decide_eq_true_eq]
  by_cases h0 : c < 1
  · rw [if_neg (by omega), if_neg (by omega), if_neg (by omega), if_neg (by omega), if_pos h0]; rfl
  · by_cases h1 : c < 16
    · rw [if_neg (by omega), if_neg (by omega), if_neg (by omega), if_pos (by omega), if_neg h0, if_pos h1]; rfl
    · by_cases h2 : c < 256
      · rw [if_neg (by omega), if_neg (by omega), if_pos (by omega), if_pos (by omega), if_neg h0, if_neg h1, if_pos h2]; rfl
      · by_cases h3 : c < 4096
        · rw [if_neg (by omega), if_pos (by omega), if_pos (by omega), if_pos (by omega), if_neg h0, if_neg h1, if_neg h2, if_pos h3]; rfl
        · rw [if_pos (by omega), if_pos (by omega), if_pos (by omega), if_pos (by omega), if_neg h0, if_neg h1, if_neg h2, if_neg h3]; rfl
theorem nd_le (c : Nat) : nd c ≤ 4 := by unfold nd; repeat' split
                                         all_goals omega
theorem name_nm {c : Nat} (h : c < 65536) : Nm (nameS c) := fun x hx => by
  rw [name_is h] at hx
  obtain ⟨p, _, rfl⟩ := List.mem_map.mp hx
  unfold cod
  have := Nat.mod_lt (c / 16 ^ p) (show 16 > 0 by decide)
  omega
theorem name_len {c : Nat} (h : c < 65536) : (nameS c).length ≤ 4 := by
  rw [Lc_len, name_is h, List.length_map, List.length_reverse, List.length_range]
  exact nd_le c
noncomputable def valN (l : List Nat) : Nat := l.foldl (fun v x => v * 16 + (x - 65)) 0
theorem val_low (c : Nat) : ∀ k v, (((List.range k).reverse).map (cod c)).foldl (fun v x => v * 16 + (x - 65)) v = v * 16 ^ k + c % 16 ^ k
  | 0, v => by rw [Nat.pow_zero, Nat.mul_one, Nat.mod_one]; rfl
  | k + 1, v => by
    rw [List.range_succ, List.reverse_append, List.reverse_singleton, List.singleton_append, List.map_cons, List.foldl_cons, val_low c k, Nat.mod_pow_succ, Nat.pow_succ]
    show (v * 16 + (65 + c / 16 ^ k % 16 - 65)) * 16 ^ k + c % 16 ^ k = _
    rw [Nat.add_sub_cancel_left, Nat.add_mul, Nat.mul_assoc, Nat.mul_comm 16, Nat.add_assoc, Nat.add_comm (c % 16 ^ k), Nat.mul_comm (c / 16 ^ k % 16)]
theorem nd_lt {c : Nat} (h : c < 65536) : c < 16 ^ nd c := by
  unfold nd
  split; · assumption
  split; · assumption
  split; · assumption
  split; · assumption
  exact h
theorem nd_ge {c i : Nat} (h : i < nd c) : 16 ^ i ≤ c := by
  revert h
  unfold nd
  split; · exact fun h => nomatch h
  rename_i h0
  split; · exact fun h => Nat.le_trans (Nat.pow_le_pow_right (by decide) (Nat.le_of_lt_succ h)) (Nat.not_lt.mp h0)
  rename_i h1
  split; · exact fun h => Nat.le_trans (Nat.pow_le_pow_right (by decide) (Nat.le_of_lt_succ h)) (Nat.not_lt.mp h1)
  rename_i h2
  split; · exact fun h => Nat.le_trans (Nat.pow_le_pow_right (by decide) (Nat.le_of_lt_succ h)) (Nat.not_lt.mp h2)
  rename_i h3
  exact fun h => Nat.le_trans (Nat.pow_le_pow_right (by decide) (Nat.le_of_lt_succ h)) (Nat.not_lt.mp h3)
theorem nd_bit {c i : Nat} (h : c < 65536) : (c / 16 ^ i != 0) = decide (i < nd c) := by
  rw [Bool.eq_iff_iff, bne_iff_ne, decide_eq_true_iff]
  constructor
  · intro hn
    refine Nat.lt_of_not_le fun hi => hn (Nat.div_eq_of_lt ?_)
    exact Nat.lt_of_lt_of_le (nd_lt h) (Nat.pow_le_pow_right (by decide) hi)
  · intro hi
    exact Nat.ne_of_gt (Nat.div_pos (nd_ge hi) (Nat.pow_pos (by decide)))
theorem name_val {c : Nat} (h : c < 65536) : valN (Lc (nameS c)) = c := by
  rw [name_is h]
  refine (val_low c (nd c) 0).trans ?_
  rw [Nat.zero_mul, Nat.zero_add, Nat.mod_eq_of_lt (nd_lt h)]
theorem name_inj {c d : Nat} (hc : c < 65536) (hd : d < 65536) (h : nameS c = nameS d) : c = d := by rw [← name_val hc, h, name_val hd]
theorem ap_list (c : Nat) : ∀ k, apV c k = (((List.range k).reverse).map fun p => (cod c p).toUInt8).toArray
  | 0 => rfl
  | k + 1 => by
    rw [apV, ap_list c k, List.range_succ, List.reverse_append]
    unfold digU cod
    simp
theorem name_told {c : Nat} (h : c < 65536) : ∃ k, k ≤ 100 ∧ (∀ i, i ≤ k → (c / 16 ^ i != 0) = decide (i < k)) ∧ apV c k = bytS (nameS c) := by
  refine ⟨nd c, Nat.le_trans (nd_le c) (by decide), fun i _ => nd_bit h, ?_⟩
  · rw [ap_list]
    unfold bytS
    show _ = ((Lc (nameS c)).map _).toArray
    rw [name_is h, List.map_map]
    rfl

theorem cnt_lt (R : List Nat) {l : Nat} (h : l < 6) : cntS R l < 65536 := by
  have := Nat.mod_lt R[4 + l]! (show 10000 > 0 by decide)
  show l + 6 * (R[4 + l]! % 10000) < 65536
  omega
theorem nms_at (R : List Nat) {l : Nat} (h : l < 6) : sAt (nmsS R) l = nameS (cntS R l) := by
  unfold sAt nmsS
  rw [List.getElem?_map, List.getElem?_map, List.getElem?_range h]; rfl
theorem nms_len (R : List Nat) : (nmsS R).length = 6 := by unfold nmsS; simp
theorem nms_mem {R : List Nat} {y : Str} (h : y ∈ nmsS R) : ∃ l, l < 6 ∧ y = nameS (cntS R l) := by
  unfold nmsS at h
  obtain ⟨c, hc, rfl⟩ := List.mem_map.mp h
  obtain ⟨l, hl, rfl⟩ := List.mem_map.mp hc
  exact ⟨l, List.mem_range.mp hl, rfl⟩
theorem nms_nm {R : List Nat} : ∀ y ∈ nmsS R, Nm y := fun y hy => by
  obtain ⟨l, hl, rfl⟩ := nms_mem hy
  exact name_nm (cnt_lt R hl)
theorem nms_inj {R : List Nat} : ∀ i j, i < 6 → j < 6 → sAt (nmsS R) i = sAt (nmsS R) j → i = j := fun i j hi hj h => by
  rw [nms_at R hi, nms_at R hj] at h
  have := name_inj (cnt_lt R hi) (cnt_lt R hj) h
  have e : i + 6 * (R[4 + i]! % 10000) = j + 6 * (R[4 + j]! % 10000) := this
  omega

/-- the header's part of the law -/
theorem hd_ok {R rows : List Nat} (hR : Rows rows) (hs : Sym rows) : Hd R rows := by
  have hlist : ∀ l, l < 6 → (listsS rows R[2]! 6)[l]! = listS rows R[2]! l := fun l hl => by
    unfold listsS
    rw [List.getElem!_eq_getElem?_getD, List.getElem?_map, List.getElem?_range hl]; rfl
  have hlt : ∀ l, l < 6 → ∀ o ∈ (listsS rows R[2]! 6)[l]!, o < 6 := fun l hl o ho => by
    rw [hlist l hl] at ho
    exact List.mem_range.mp (List.mem_filter.mp ho).1
  have H : HdrOk (nmsS R) (listsS rows R[2]! 6) (wysS R) := by
    refine ⟨nms_len R, fun x hx => ?_, by unfold listsS; simp, fun l hl => ?_, by simp⟩
    · obtain ⟨l, hl, rfl⟩ := nms_mem hx
      exact name_len (cnt_lt R hl)
    · unfold listsS at hl
      obtain ⟨i, hi, rfl⟩ := List.mem_map.mp hl
      unfold listS
      exact ⟨List.length_filter_le _ (List.range 6), fun o ho => List.mem_range.mp (List.mem_filter.mp ho).1⟩
  obtain ⟨b1, b2, b3⟩ := header_len H (R[3]! / 1296 % 2)
  have kq := keq_eq (ways := wysS R) nms_nm (nms_len R) hlt (nms_inj (R := R))
  obtain ⟨r1, r2⟩ := read_rows (nms := nmsS R) (ways := wysS R) (tells := R[2]!) nms_nm (nms_len R) nms_inj hR hs
  have hsaid : ∀ l, l < 6 → sAt (saiS R rows) l = saidOf (wysS R)[l]! (rowAt (nmsS R) (listsS rows R[2]! 6)[l]!) := fun l hl => by
    unfold sAt saiS saidL
    rw [List.getElem?_map, List.getElem?_range hl]; rfl
  have hsl : ∀ l, l < 6 → (saidOf (wysS R)[l]! (rowAt (nmsS R) (listsS rows R[2]! 6)[l]!)).length ≤ 40 := fun l hl => by
    have hm : (listsS rows R[2]! 6)[l]! ∈ listsS rows R[2]! 6 := by
      have := getA! (l := listsS rows R[2]! 6) (i := l) (by rw [H.l6]; exact hl)
      exact List.mem_of_getElem? this
    obtain ⟨q1, q2⟩ := row_ok H.n6 H.n4 (H.li _ hm)
    exact said_len q1 q2
  refine ⟨H, fun l hl => name_told (cnt_lt R hl), fun y hy => ⟨fun x hx => by have := nms_nm y hy x hx; omega, ?_⟩, ?_, b3, header_parse nms_nm (nms_len R) hlt _, itsL (nmsS R) (listsS rows R[2]! 6) (wysS R), items_eq, ?_⟩
  · obtain ⟨l, hl, rfl⟩ := nms_mem hy
    have := name_len (cnt_lt R hl)
    rw [Lc_len] at this
    exact Nat.le_trans this (by decide)
  · have : (("," : Str)).length = 1 := by decide +kernel
    unfold wriS
    rw [this]
    omega
  · refine ⟨nms_len R, by unfold saiS saidL; simp, by simp, ?_, fun p hp => ?_, fun i he => ?_, ?_, ?_, ?_⟩
    · unfold itsL
      rw [List.length_append, List.length_map, List.length_map, List.length_range]
      have := List.length_filter_le (fun l => (wysS R)[l]! == 2) [5, 4, 3, 2, 1, 0]
      simp only [List.length_cons, List.length_nil] at this
      omega
    · have key : ∀ l, l < 6 → 61 ∉ (sAt (nmsS R) l).cps.toList ∧ (sAt (nmsS R) l).length ≤ 4 := fun l hl => by
        rw [nms_at R hl]
        exact ⟨fun h => by have := name_nm (cnt_lt R hl) 61 h; omega, name_len (cnt_lt R hl)⟩
      unfold itsL at hp
      rcases List.mem_append.mp hp with h | h
      · obtain ⟨l, hl', rfl⟩ := List.mem_map.mp h
        have hl6 : l < 6 := six_lt (List.mem_filter.mp hl').1
        have e := congrArg (fun s => (Lc s).length) (itA_eq (nms := nmsS R) l)
        have hpl := pre_len H.n6 H.n4 hl6
        rw [Lc_len] at hpl
        rw [Lc_append, Lc_append, Lc_EQ] at e
        simp only [List.length_append, List.length_cons, List.length_nil] at e
        refine ⟨(key l hl6).1, ?_, ?_⟩
        · unfold itA; rw [Lc_len, Lc_Sc]; simp
        · rw [Lc_len, Lc_len]; omega
      · obtain ⟨l, hl', rfl⟩ := List.mem_map.mp h
        have hl6 := List.mem_range.mp hl'
        refine ⟨(key l hl6).1, ?_, ?_⟩
        · unfold itB
          cases hb : bareOf (wysS R)[l]! (rowAt (nmsS R) (listsS rows R[2]! 6)[l]!) with
          | false =>
            simp only [Bool.false_eq_true, if_false]
            rw [Lc_len, Lc_Sc]; simp
          | true =>
            simp only [if_true]
            obtain ⟨_, _, _, hne, _⟩ := item_b (nm := "") hb
            rw [Lc_len]
            refine Nat.pos_of_ne_zero fun h0 => hne (Lc_inj ((List.eq_nil_of_length_eq_zero h0).trans lits.2.2.2.2.2.2.2.2.2.symm))
        · have h40 := hsl l hl6
          have h4 := (key l hl6).2
          have hle : (itB (wysS R)[l]! (sAt (nmsS R) l) (rowAt (nmsS R) (listsS rows R[2]! 6)[l]!)).2.length ≤ 42 := by
            unfold itB
            cases hb : bareOf (wysS R)[l]! (rowAt (nmsS R) (listsS rows R[2]! 6)[l]!) with
            | false =>
              simp only [Bool.false_eq_true, if_false]
              rw [Lc_len] at h40
              rw [Lc_len, Lc_Sc]
              simp only [List.length_append, List.length_cons, List.length_nil]
              omega
            | true =>
              simp only [if_true]
              obtain ⟨_, hss, _, _, _⟩ := item_b (nm := "") hb
              rw [hss] at h40
              omega
          show (sAt (nmsS R) l).length + _ ≤ _
          omega
    · have hm := List.mem_of_getElem? he
      have := nms_nm _ hm 81 (by decide +kernel)
      omega
    · rw [kq]
      refine List.map_congr_left fun l hl => ?_
      rw [hsaid l (ordS_lt l hl)]
    · rw [kq]
      intro p hp
      obtain ⟨q1, q2, q3⟩ := r1 p hp
      refine ⟨q1, q2, ?_, q3⟩
      obtain ⟨l, hl, rfl⟩ := List.mem_map.mp hp
      have := hsl l (ordS_lt l hl)
      rw [Lc_len] at this
      exact Nat.le_trans this (by decide)
    · rw [kq]; exact r2
theorem plain_ok (ns : List Int) : Plain (numS ns 60) :=
  ⟨numS_len ns 60, alg (Nat.mod_lt _ (by decide)) (Nat.mod_lt _ (by decide)), hd_ok (net_rows _ _).1 (net_sym _ _)⟩
end
section
open PySem PySem.W PyProof.Rows
noncomputable def K0 : Params → Frag := fun _ => [(2, { cls := Value.none, data := Data.dict #[] })]
noncomputable def kh : Hook := kHook K0 [2] (fun _ => rfl)
noncomputable def isDef : Stmt → Bool | .FunctionDef .. => true | _ => false
noncomputable def pg : Program := PySem.Challenge.rw_wv0013_01.row.prog
noncomputable def view : Program := { pg with main := { pg.main with body := pg.main.body.filter isDef } }
set_option maxRecDepth 100000 in
set_option maxHeartbeats 8000000 in
theorem left : LeftO PySem.Challenge.rw_wv0013_01.row.prog view [] (fun s => xlAt view [] s && recOk (RowW.records PySem.Challenge.rw_wv0013_01.row.toRowW) s) (Hook.obs kh) (Hook.val kh) 1976 := by
  intro w
  kernel_rfl
set_option maxRecDepth 100000 in
set_option maxHeartbeats 8000000 in
/-- the looks at the law's text, each by a kernel step of its own -/
theorem law_said : PySem.Challenge.rw_wv0013_01.wellSaid = true := by
  unfold OpenLaw.wellSaid
  repeat' with_reducible refine look_both ?_ ?_
  · unfold OpenRow.wellSaid OpenRow.partSaid
    repeat' with_reducible refine look_both ?_ ?_
    · unfold looksOpen
      repeat' with_reducible refine look_both ?_ ?_
      all_goals decide +kernel
    all_goals decide +kernel
  all_goals decide +kernel
end
section
open PySem PySem.W PySem.Calls PyProof.Rows
theorem view_recs : recsOf view = fns := by with_unfolding_all rfl
theorem free_ok : usedBuiltins.all (fun p => !(startupNames.contains p.1) && !((looseW view []).contains p.1) && !(((recsOf view).map (·.name)).contains p.1) && !(((litsOf view).map (·.1)).contains p.1) && !(((clssOf view (looseW view [])).map (·.name)).contains p.1) && !(p.1 == "__name__") && (bootBuiltins p.1 == some p.2)) = true := by decide +kernel
theorem lits_IntsAre {X : AS} {h : Heap} : ∀ {vs : List Value} {ns : List Int}, IntsAre vs ns → RepAll X h vs (ns.map .int)
  | _, _, .nil => .nil
  | _, _, .cons n t r => .cons (.int _ _) (lits_IntsAre r)
theorem none_booked {P : Params} {h : Heap} (KX : (K0 P).In h) : NoneBooked h := by
  have e : h.get? 2 = some { cls := Value.none, data := Data.dict #[] } := KX 2 _ rfl
  refine ⟨fun _ => none, ?_, rfl⟩
  exact ⟨_, #[], _, e, rfl, (fun e he => by simp at he), fun name => rfl⟩
theorem base_top {mean : ExcName → Option Value} {mg mb : Str → Option Value} {P : Params} {h : Heap} (T : Top view (looseW view []) mean mg mb h) (KX : (K0 P).In h) : Base fns mg mb h := by
  refine ⟨T.g, T.b, T.nolimit, none_booked KX, fun d hd => T.fn d (view_recs ▸ hd), fun p hp => ?_⟩
  have := List.all_eq_true.mp free_ok p hp
  simp only [Bool.and_eq_true, Bool.not_eq_true', beq_eq_false_iff_ne, ne_eq] at this
  obtain ⟨⟨⟨⟨⟨⟨a1, a2⟩, a3⟩, a4⟩, a5⟩, a6⟩, a7⟩ := this
  have nc : ∀ {l : List Str} {x : Str}, l.contains x = false → x ∉ l := fun h hm => by
    rw [List.contains_iff_mem.mpr hm] at h
    cases h
  exact ⟨T.free p.1 (nc a1) (nc a2) (nc a3) (nc a4) (nc a5), by rw [T.builtins p.1 a6]; exact eq_of_beq a7⟩
theorem law_go {w : World} {mean : ExcName → Option Value} {mg mb : Str → Option Value} {s : Shared} (T : Top view (looseW view []) mean mg mb s.heap) (KX : (K0 w.params).In s.heap) {fa : Addr} (hmg : mg (fn 28).name = some (.ref fa))
    {l : Addr} {vs : List Value} {ns : List Int} (hL : s.heap.IsList l vs.toArray) (hI : IntsAre vs ns) (hn : ns.length ≤ 63) {prog : Program} {Q : Value → Shared → Prop} {E : Value → Shared → Prop} (q : ∀ h' tk', (∀ b o, s.heap.get? b = some o → h'.get? b = some o) → Q (.bool true) { s with heap := h', toks := tk' }) :
    wpAny (model prog w) callerA (call (.ref fa) [.ref l]) Q E s := by
  have B := base_top T KX
  obtain ⟨a, o, pm, code, doc, hg, hoo, hdd, hcc⟩ := B.fn (fn 28) (fn_mem (by decide))
  rw [hmg] at hg
  cases hg
  have O : OkS ⟨prog, w, fns, mg, mb, s.toks⟩ callerA (3 + 1) (fun _ => False) s := ⟨⟨⟨rfl, by decide, by decide⟩, B, fun a z => z.elim⟩, Nat.le_refl _⟩
  refine call_core (W := ⟨prog, w, fns, mg, mb, s.toks⟩) ["script"] sc28 (args := [.lst (ns.map .int)]) (by intro pm code doc cvs h; obtain ⟨a, rfl⟩ := len1 h; rfl) (by decide +kernel) rfl O hoo hdd hcc (.cons (.lst (fun z => z) hL (lits_IntsAre hI)) .nil) fun env Y h₁ tk₁ hf hY hns hnew S ht le => ?_
  refine (law1 (n := 0) (W := ⟨prog, w, fns, mg, mb, s.toks⟩) rfl (frames_of rfl) hf hY (by omega) rfl (plain_ok ns)).go (fun _ => False) { s with heap := h₁, toks := tk₁ } [] _ _ S ht fun f h' tk' as' lo' ra st => ?_
  obtain ⟨⟨cv, rfl, rv, le'⟩, _⟩ := ra
  obtain rfl := Rep.boolI rv
  exact q h' tk' le'
end
end Mine
open PySem PySem.W PyProof.Rows
set_option maxRecDepth 100000 in
set_option maxHeartbeats 8000000 in
theorem PySem.Challenge.cw_wv0013_01_holds : PySem.Challenge.rw_wv0013_01.Holds := by
  w_on
  refine holds_law Mine.law_said fun said => ?_
  refine holds_open (q := Mine.view) (loose := []) (Xt := fun s => xlAt Mine.view [] s && recOk (RowW.records PySem.Challenge.rw_wv0013_01.row.toRowW) s) (XP := XL Mine.view []) (Yf := Hook.obs Mine.kh) (Ya := Hook.val Mine.kh) (YP := Hook.says Mine.kh) (N := 1976) Mine.left (Hook.of Mine.kh) (Hook.keeps Mine.kh) (fun s e => xl_of s (Bool.and_eq_true_iff.mp e).1) XL.keeps (by rfl) (by rfl) (by rfl) (fun s e => recFacts_of (Bool.and_eq_true_iff.mp e).2) (by rfl) (by first | assumption | decide +kernel) (by decide +kernel) ⟨rfl, rfl, rfl, rfl, rfl, by decide +kernel⟩ ?hw ?hc
  case hw => w_witness2
  case hc =>
    intro w s₀ s₁ mg mb G Y fa o pm cd doc dV kV ho hd hcd hD hmg hg args vals as hpre hlay hrd hwl hlo
    have KX : (Mine.K0 w.params).In s₁.heap := kIn_of (K := Mine.K0) (as := [2]) (e := fun _ => rfl) Y
    refine Ground.open G ?_
    intro T B D TE TW
    wrow_args hpre hlay hrd hwl hlo
    have hm : mg (Mine.fn 28).name = some (.ref fa) := by rw [Mine.id28]; exact hmg
    refine Mine.law_go T KX hm (by assumption) (by assumption) (by omega) fun h' tk' le => ?_
    refine ⟨.inl ⟨_, .bool true, [], rfl, fun _ => rfl, .bool _, ?_, fun _ => ⟨.nil, fun _ h => nomatch h⟩⟩, OldK.of_keep le, rfl, ?_⟩
    · first | with_unfolding_all rfl | kernel_rfl
    · exact AllBare.of_eq hg
