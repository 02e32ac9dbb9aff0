import PyProof.Rows.All
import Wide.All
import OpenK.AllK
import Wide.FinOn
import PySem.Challenge.RW_dj5010_01
open PySem PySem.W PyProof.Rows
set_option Elab.async false
set_option linter.unusedVariables false
set_option linter.unusedSimpArgs false
set_option maxRecDepth 100000
set_option maxHeartbeats 8000000

namespace Mine

/-- a value without its token -/
def er : Value → Value
  | .int i _ => .int i 0
  | .str s _ => .str s 0
  | v => v
theorem er_int {v : Value} {i : Int} {t : Nat} (h : er v = .int i t) : ∃ u, v = .int i u := by
  cases v <;> simp [er] at h
  exact ⟨_, by rw [h.1]⟩
theorem er_ref {v : Value} {a : Addr} (h : er v = .ref a) : v = .ref a := by
  cases v <;> simp_all [er]
theorem er_none {v : Value} (h : er v = .none) : v = .none := by
  cases v <;> simp_all [er]
theorem er_bool {v : Value} {b : Bool} (h : er v = .bool b) : v = .bool b := by
  cases v <;> simp_all [er]
theorem er_builtin {v : Value} {b : String} (h : er v = .builtin b) : v = .builtin b := by
  cases v <;> simp_all [er]
theorem er_type {v : Value} {b : String} (h : er v = .type b) : v = .type b := by
  cases v <;> simp_all [er]
theorem er_er (v : Value) : er (er v) = er v := by cases v <;> rfl
@[simp] theorem er_int_eq (i : Int) (t : Nat) : er (.int i t) = .int i 0 := rfl
@[simp] theorem er_ref_eq (a : Addr) : er (.ref a) = .ref a := rfl
@[simp] theorem er_none_eq : er .none = .none := rfl
@[simp] theorem er_bool_eq (b : Bool) : er (.bool b) = .bool b := rfl

/-- what the abstract heap says of an object -/
inductive AO where
  | lst (xs : List Value)
  | tup (xs : List Value)
  | ns (m : Str → Option Value)
  | cell (v : Option Value)
  | lit (l : Addr) (i : Nat)
  | rng (a b c : Int)
  | rit (x left step : Int)
  | obj (o : Obj)

def Sat (h : Heap) (a : Addr) : AO → Prop
  | .lst xs => ∃ items n, IsL h a items n ∧ items.toList.map er = xs ∧ xs.length ≤ sizeLine
  | .tup xs => ∃ items n, IsT h a items n ∧ items.toList.map er = xs
  | .ns m => ∃ m', h.Ns a m' ∧ ∀ x, (m' x).map er = m x
  | .cell v => ∃ v', h.IsCell a v' ∧ v'.map er = v
  | .lit l i => h.IsListIter a l i
  | .rng x y z => ∃ t u v, IsRange h a x y z t u v
  | .rit x y z => IsRangeIter h a x y z
  | .obj o => h.get? a = some o

theorem Sat.mono {h h' : Heap} {a : Addr} {x : AO} (s : Sat h a x) (k : ∀ o, h.get? a = some o → h'.get? a = some o) : Sat h' a x := by
  cases x with
  | lst xs => obtain ⟨i, n, q, r⟩ := s; exact ⟨i, n, k _ q, r⟩
  | tup xs => obtain ⟨i, n, q, r⟩ := s; exact ⟨i, n, k _ q, r⟩
  | ns m => obtain ⟨m', ⟨o, es, ep, ho, r⟩, q⟩ := s; exact ⟨m', ⟨o, es, ep, k _ ho, r⟩, q⟩
  | cell v => obtain ⟨v', ⟨o, ho, r⟩, q⟩ := s; exact ⟨v', ⟨o, k _ ho, r⟩, q⟩
  | lit l i => obtain ⟨o, ho, r⟩ := s; exact ⟨o, k _ ho, r⟩
  | rng x y z => obtain ⟨t, u, v, r⟩ := s; exact ⟨t, u, v, k _ r⟩
  | rit x y z => exact k _ s
  | obj o => exact k _ s

theorem Sat.get {h : Heap} {a : Addr} {x : AO} (s : Sat h a x) : ∃ o, h.get? a = some o := by
  cases x with
  | lst xs => obtain ⟨i, n, q, r⟩ := s; exact ⟨_, q⟩
  | tup xs => obtain ⟨i, n, q, r⟩ := s; exact ⟨_, q⟩
  | ns m => obtain ⟨m', ⟨o, es, ep, ho, r⟩, q⟩ := s; exact ⟨_, ho⟩
  | cell v => obtain ⟨v', ⟨o, ho, r⟩, q⟩ := s; exact ⟨_, ho⟩
  | lit l i => obtain ⟨o, ho, r⟩ := s; exact ⟨_, ho⟩
  | rng x y z => obtain ⟨t, u, v, r⟩ := s; exact ⟨_, r⟩
  | rit x y z => exact ⟨_, s⟩
  | obj o => exact ⟨_, s⟩
theorem Sat.lt {h : Heap} {a : Addr} {x : AO} (s : Sat h a x) : a < h.objs.size := let ⟨_, e⟩ := s.get; Heap.lt_size e

abbrev Phi := Addr → Option AO
def upd (φ : Phi) (a : Addr) (x : AO) : Phi := fun b => if b = a then some x else φ b
/-- the two together; the left one first -/
def join (φ ρ : Phi) : Phi := fun a => match φ a with | some x => some x | none => ρ a
def Apart (φ ρ : Phi) : Prop := ∀ a, φ a = none ∨ ρ a = none
def Le (φ ψ : Phi) : Prop := ∀ a x, φ a = some x → ψ a = some x
def del (φ : Phi) (a : Addr) : Phi := fun b => if b = a then none else φ b

@[simp] theorem upd_same (φ : Phi) (a x) : upd φ a x a = some x := if_pos rfl
theorem upd_ne {φ : Phi} {a b : Addr} {x y} (h : b ≠ a) (e : φ b = y) : upd φ a x b = y := (if_neg h).trans e
theorem upd_old {φ : Phi} {a b : Addr} {x y} (h : φ a = none) (e : φ b = some y) : upd φ a x b = some y :=
  upd_ne (fun q => by rw [q, h] at e; cases e) e
theorem Le.refl (φ : Phi) : Le φ φ := fun _ _ e => e
theorem Le.trans {φ ψ χ : Phi} (h : Le φ ψ) (k : Le ψ χ) : Le φ χ := fun a x e => k a x (h a x e)
theorem Le.alloc {φ₀ φ : Phi} {a : Addr} {x} (h : Le φ₀ φ) (ha : φ a = none) : Le φ₀ (upd φ a x) := fun _ _ e => upd_old ha (h _ _ e)
theorem Le.set {φ₀ φ : Phi} {a : Addr} {x} (h : Le φ₀ φ) (ha : φ₀ a = none) : Le φ₀ (upd φ a x) := fun b y e =>
  upd_ne (fun q => by rw [q, ha] at e; cases e) (h _ _ e)
theorem Le.none {φ₀ φ : Phi} {a : Addr} (h : Le φ₀ φ) (ha : φ a = none) : φ₀ a = none := by
  cases e : φ₀ a with
  | none => rfl
  | some x => rw [h _ _ e] at ha; cases ha
theorem upd_upd (φ : Phi) (a x y) : upd (upd φ a x) a y = upd φ a y := by
  funext b; unfold upd; by_cases h : b = a <;> simp [h]
theorem upd_comm {φ : Phi} {a b : Addr} {x y} (h : a ≠ b) : upd (upd φ a x) b y = upd (upd φ b y) a x := by
  funext c; unfold upd; by_cases h1 : c = a <;> by_cases h2 : c = b <;> simp_all
theorem upd_self {φ : Phi} {a : Addr} {x} (h : φ a = some x) : upd φ a x = φ := by
  funext b; unfold upd; by_cases h1 : b = a <;> simp_all
theorem del_upd {φ : Phi} {a : Addr} {x} (h : φ a = some x) : upd (del φ a) a x = φ := by
  funext b; unfold upd del; by_cases h1 : b = a <;> simp_all
theorem del_same (φ : Phi) (a : Addr) : del φ a a = none := if_pos rfl

structure Cx where
  prog : Program
  w : World
  s₀ : Shared
  mg : Str → Option Value
  mb : Str → Option Value

structure St (C : Cx) (φ : Phi) (s : Shared) : Prop where
  sat : ∀ a x, φ a = some x → Sat s.heap a x ∧ C.s₀.heap.get? a = none
  stays : ∀ b o, C.s₀.heap.get? b = some o → s.heap.get? b = some o
  gens : s.gens = C.s₀.gens
  os : s.os = C.s₀.os

theorem St.le {C : Cx} {φ ψ : Phi} {s : Shared} (h : St C ψ s) (k : Le φ ψ) : St C φ s :=
  ⟨fun a x e => h.sat a x (k a x e), h.stays, h.gens, h.os⟩

theorem St.keep {C : Cx} {φ : Phi} {s : Shared} (h : St C φ s) {h' : Heap} {tk : Nat} (k : ∀ b o, s.heap.get? b = some o → h'.get? b = some o) :
    St C φ { s with heap := h', toks := tk } :=
  ⟨fun a x e => ⟨(h.sat a x e).1.mono (fun o q => k a o q), (h.sat a x e).2⟩, fun b o e => k b o (h.stays b o e), h.gens, h.os⟩
theorem St.fresh {C : Cx} {φ : Phi} {s : Shared} (h : St C φ s) {a : Addr} (ha : s.heap.get? a = none) : φ a = none ∧ C.s₀.heap.get? a = none := by
  constructor
  · cases e : φ a with
    | none => rfl
    | some x => obtain ⟨o, q⟩ := (h.sat a x e).1.get; rw [ha] at q; cases q
  · cases e : C.s₀.heap.get? a with
    | none => rfl
    | some x => rw [h.stays a x e] at ha; cases ha
theorem St.alloc {C : Cx} {φ : Phi} {s : Shared} (h : St C φ s) {h' : Heap} {tk : Nat} {a : Addr} {x : AO} (k : ∀ b o, s.heap.get? b = some o → h'.get? b = some o)
    (ha : s.heap.get? a = none) (hs : Sat h' a x) : St C (upd φ a x) { s with heap := h', toks := tk } := by
  refine ⟨fun b y e => ?_, fun b o e => k b o (h.stays b o e), h.gens, h.os⟩
  unfold upd at e
  by_cases hb : b = a
  · subst hb; simp only [if_true] at e; cases e; exact ⟨hs, (h.fresh ha).2⟩
  · rw [if_neg hb] at e; exact ⟨(h.sat b y e).1.mono (fun o q => k b o q), (h.sat b y e).2⟩
theorem St.set {C : Cx} {φ : Phi} {s : Shared} (h : St C φ s) {h' : Heap} {tk : Nat} {a : Addr} {x y : AO} (k : ∀ b o, b ≠ a → s.heap.get? b = some o → h'.get? b = some o)
    (ha : φ a = some y) (hs : Sat h' a x) : St C (upd φ a x) { s with heap := h', toks := tk } := by
  refine ⟨fun b z e => ?_, fun b o e => k b o (fun q => ?_) (h.stays b o e), h.gens, h.os⟩
  · unfold upd at e
    by_cases hb : b = a
    · subst hb; simp only [if_true] at e; cases e; exact ⟨hs, (h.sat _ _ ha).2⟩
    · rw [if_neg hb] at e; exact ⟨(h.sat b z e).1.mono (fun o q => k b o hb q), (h.sat b z e).2⟩
  · subst q; rw [(h.sat _ _ ha).2] at e; cases e
theorem St.tok {C : Cx} {φ : Phi} {s : Shared} (h : St C φ s) {tk : Nat} : St C φ { s with toks := tk } := h.keep fun _ _ e => e

def Room (d : Nat) (A : Around) : Prop := A.handled = none ∧ A.depth + d ≤ 900 ∧ A.units + 10 * d ≤ 9000
theorem Room.le {d d' : Nat} {A : Around} (h : Room d' A) (k : d ≤ d') : Room d A := ⟨h.1, by have := h.2.1; omega, by have := h.2.2; omega⟩
theorem Room.in1 {d : Nat} {A : Around} (h : Room (d + 1) A) : Room d A.in1 := ⟨h.1, by have := h.2.1; simp only [Around.in1_depth]; omega, by have := h.2.2; simp only [Around.in1_units]; omega⟩
theorem Room.deeper {d : Nat} {A : Around} {env : Env} (h : Room (d + 1) A) : Room d (A.deeper env) := ⟨h.1, by have := h.2.1; show A.depth + 1 + d ≤ _; omega, by have := h.2.2; show A.units + 3 + 10 * d ≤ _; omega⟩

def W {α : Type} (C : Cx) (d : Nat) (t : Sem α) (Q : α → Phi → Prop) (φ : Phi) : Prop :=
  ∀ ρ A s, Room d A → Apart φ ρ → St C (join φ ρ) s →
    wpAny (model C.prog C.w) A t (fun v s' => ∃ φ', Apart φ' ρ ∧ St C (join φ' ρ) s' ∧ Q v φ') (fun _ _ => False) s

section
variable {α β : Type} {C : Cx} {d : Nat} {φ : Phi}

theorem join_left {φ ρ : Phi} {a x} (h : φ a = some x) : join φ ρ a = some x := by unfold join; rw [h]
theorem join_none {φ ρ : Phi} {a} (h : join φ ρ a = none) : φ a = none ∧ ρ a = none := by
  unfold join at h
  cases e : φ a with
  | none => rw [e] at h; exact ⟨rfl, h⟩
  | some x => rw [e] at h; cases h
theorem join_upd {φ ρ : Phi} {a x} : join (upd φ a x) ρ = upd (join φ ρ) a x := by
  funext b; unfold join upd; by_cases h : b = a <;> simp [h]
theorem Apart.right {φ ρ : Phi} {a x} (h : Apart φ ρ) (e : φ a = some x) : ρ a = none := (h a).resolve_left fun q => by rw [q] at e; cases e
theorem Apart.upd {φ ρ : Phi} {a x} (h : Apart φ ρ) (e : ρ a = none) : Apart (upd φ a x) ρ := fun b => by
  by_cases q : b = a
  · subst q; exact .inr e
  · exact (h b).imp (fun z => upd_ne q z) id
theorem join_le {φ ρ : Phi} : Le φ (join φ ρ) := fun _ _ e => join_left e

theorem W.pure {a : α} {Q : α → Phi → Prop} (h : Q a φ) : W C d (Pure.pure a) Q φ := fun _ _ _ _ ap st => wpAny_pure ⟨φ, ap, st, h⟩
theorem W.mono {t : Sem α} {Q Q' : α → Phi → Prop} (h : W C d t Q φ) (k : ∀ a ψ, Q a ψ → Q' a ψ) : W C d t Q' φ := fun ρ A s r ap st =>
  wpAny_mono (h ρ A s r ap st) (fun _ _ ⟨φ', x, y, q⟩ => ⟨φ', x, y, k _ _ q⟩) fun _ _ e => e
theorem W.bind {m : Sem α} {f : α → Sem β} {Q : β → Phi → Prop} (h : W C d m (fun a ψ => W C d (f a) Q ψ) φ) : W C d (m >>= f) Q φ := fun ρ A s r ap st =>
  wpAny_bind (wpAny_mono (h ρ A s r ap st) (fun _ s' ⟨φ', x, y, q⟩ => q ρ A s' r x y) fun _ _ e => e.elim)
theorem W.le {t : Sem α} {Q : α → Phi → Prop} {d' : Nat} (h : W C d t Q φ) (k : d ≤ d') : W C d' t Q φ := fun ρ A s r ap st => h ρ A s (r.le k) ap st
/-- forget a part -/
theorem W.forget {t : Sem α} {Q Q' : α → Phi → Prop} (h : W C d t Q φ) (k : ∀ a ψ, Q a ψ → ∃ χ, Le χ ψ ∧ Q' a χ) : W C d t Q' φ := fun ρ A s r ap st =>
  wpAny_mono (h ρ A s r ap st) (fun _ _ ⟨φ', x, y, q⟩ => let ⟨χ, l, q'⟩ := k _ _ q; ⟨χ, fun a => (x a).imp (fun z => l.none z) id, y.le (fun a o e => by
    unfold join at e ⊢
    cases e1 : χ a with
    | none =>
      rw [e1] at e
      have e : ρ a = some o := e
      have : φ' a = none := (x a).resolve_right fun z => by rw [z] at e; cases e
      rw [this]; exact e
    | some o' => rw [e1] at e; rw [l _ _ e1]; exact e), q'⟩) fun _ _ e => e
/-- the frame -/
theorem W.frame {t : Sem α} {Q : α → Phi → Prop} {χ : Phi} (h : W C d t Q φ) (k : Apart φ χ) : W C d t (fun a ψ => ∃ φ', Apart φ' χ ∧ ψ = join φ' χ ∧ Q a φ') (join φ χ) := by
  have assoc : ∀ a b c : Phi, join (join a b) c = join a (join b c) := fun a b c => by
    funext x; unfold join; cases a x <;> rfl
  intro ρ A s r ap st
  have ap' : ∀ {φ' : Phi}, Apart φ' (join χ ρ) → Apart φ' χ ∧ Apart (join φ' χ) ρ := fun {φ'} x => by
    refine ⟨fun a => ?_, fun a => ?_⟩
    · rcases x a with q | q
      · exact .inl q
      · exact .inr (join_none q).1
    · rcases x a with q | q
      · by_cases z : ρ a = none
        · exact .inr z
        · refine .inl ?_
          unfold join; rw [q]
          show χ a = none
          have := ap a
          rcases this with q1 | q1
          · exact (join_none q1).2
          · exact absurd q1 z
      · exact .inr (join_none q).2
  refine wpAny_mono (h (join χ ρ) A s r (fun a => ?_) (assoc φ χ ρ ▸ st)) (fun v s' ⟨φ', x, y, q⟩ => ⟨join φ' χ, (ap' x).2, (assoc φ' χ ρ).symm ▸ y, φ', (ap' x).1, rfl, q⟩) fun _ _ e => e
  rcases ap a with q | q
  · exact .inl (join_none q).1
  · rcases k a with q1 | q1
    · exact .inl q1
    · refine .inr ?_
      unfold join; rw [q1]; exact q
/-- from a rule on the heap that changes nothing -/
theorem W.of_pure {t : Sem α} {Q : α → Phi → Prop} {a : α} (e : t = Pure.pure a) (h : Q a φ) : W C d t Q φ := e ▸ W.pure h
end

end Mine

namespace Mine

abbrev Frm := Str → Option Value
def fset (m : Frm) (x : Str) (v : Value) : Frm := fun y => if y = x then some v else m y
theorem fset_same (m : Frm) (x v) : fset m x v x = some v := if_pos rfl
theorem fset_ne {m : Frm} {x y : Str} {v} {r} (h : y ≠ x) (e : m y = r) : fset m x v y = r := (if_neg h).trans e

def B {α : Type} (C : Cx) (d : Nat) (L : Addr) (t : Sem α) (Q : α → Frm → Phi → Prop) (m : Frm) (φ : Phi) : Prop :=
  φ L = none → W C d t (fun v ψ => ∃ m' φ', φ' L = none ∧ ψ = upd φ' L (.ns m') ∧ Q v m' φ') (upd φ L (.ns m))

structure FS (C : Cx) (L : Addr) (m : Frm) (φ ρ : Phi) (s : Shared) : Prop where
  none : φ L = none
  ap : Apart (upd φ L (.ns m)) ρ
  st : St C (join (upd φ L (.ns m)) ρ) s

section
variable {α β : Type} {C : Cx} {d : Nat} {L : Addr} {m : Frm} {φ ρ : Phi} {s : Shared}

theorem FS.ne (F : FS C L m φ ρ s) {a x} (h : φ a = some x) : a ≠ L := fun q => by rw [q, F.none] at h; cases h
theorem FS.sat (F : FS C L m φ ρ s) {a x} (h : φ a = some x) : Sat s.heap a x := (F.st.sat a x (join_left (upd_ne (F.ne h) h))).1
theorem FS.ns (F : FS C L m φ ρ s) : ∃ m', s.heap.Ns L m' ∧ ∀ x, (m' x).map er = m x := (F.st.sat L (.ns m) (join_left (upd_same ..))).1
theorem FS.stays (F : FS C L m φ ρ s) : ∀ b o, C.s₀.heap.get? b = some o → s.heap.get? b = some o := F.st.stays
theorem FS.keep (F : FS C L m φ ρ s) {h' : Heap} {tk : Nat} (k : ∀ b o, s.heap.get? b = some o → h'.get? b = some o) : FS C L m φ ρ { s with heap := h', toks := tk } :=
  ⟨F.none, F.ap, F.st.keep k⟩
theorem FS.tok (F : FS C L m φ ρ s) {tk : Nat} : FS C L m φ ρ { s with toks := tk } := ⟨F.none, F.ap, F.st.tok⟩
theorem FS.alloc (F : FS C L m φ ρ s) {h' : Heap} {tk : Nat} {a : Addr} {x : AO} (k : ∀ b o, s.heap.get? b = some o → h'.get? b = some o)
    (ha : s.heap.get? a = Option.none) (hs : Sat h' a x) : φ a = Option.none ∧ a ≠ L ∧ FS C L m (upd φ a x) ρ { s with heap := h', toks := tk } := by
  have f := (F.st.fresh ha).1
  have f1 := (join_none f).1
  have f2 := (join_none f).2
  have ne : a ≠ L := fun q => by rw [q, upd_same] at f1; cases f1
  have f3 : φ a = Option.none := by unfold upd at f1; rwa [if_neg ne] at f1
  refine ⟨f3, ne, upd_ne (Ne.symm ne) F.none, ?_, ?_⟩
  · rw [upd_comm ne]; exact F.ap.upd f2
  · rw [upd_comm ne, join_upd]; exact F.st.alloc k ha hs
theorem FS.set (F : FS C L m φ ρ s) {h' : Heap} {tk : Nat} {a : Addr} {x y : AO} (e : φ a = some y) (k : ∀ b o, b ≠ a → s.heap.get? b = some o → h'.get? b = some o)
    (hs : Sat h' a x) : FS C L m (upd φ a x) ρ { s with heap := h', toks := tk } := by
  have ne := F.ne e
  have e' : upd φ L (.ns m) a = some y := upd_ne ne e
  refine ⟨upd_ne (Ne.symm ne) F.none, ?_, ?_⟩
  · rw [upd_comm ne]; exact F.ap.upd (F.ap.right e')
  · rw [upd_comm ne, join_upd]; exact F.st.set k (join_left e') hs
theorem FS.store (F : FS C L m φ ρ s) {h' : Heap} {tk : Nat} {m' : Frm} (k : ∀ b o, b ≠ L → s.heap.get? b = some o → h'.get? b = some o)
    (hs : Sat h' L (.ns m')) : FS C L m' φ ρ { s with heap := h', toks := tk } := by
  have e : upd φ L (.ns m) L = some (.ns m) := upd_same ..
  refine ⟨F.none, ?_, ?_⟩
  · rw [← upd_upd φ L (.ns m)]; exact F.ap.upd (F.ap.right e)
  · rw [← upd_upd φ L (.ns m), join_upd]; exact F.st.set k (join_left e) hs

theorem B.raw {t : Sem α} {Q : α → Frm → Phi → Prop}
    (h : ∀ ρ A s, Room d A → FS C L m φ ρ s → wpAny (model C.prog C.w) A t (fun v s' => ∃ m' φ', FS C L m' φ' ρ s' ∧ Q v m' φ') (fun _ _ => False) s) : B C d L t Q m φ :=
  fun hn ρ A s r ap st => wpAny_mono (h ρ A s r ⟨hn, ap, st⟩) (fun v s' ⟨m', φ', F, q⟩ => ⟨_, F.ap, F.st, m', φ', F.none, rfl, q⟩) fun _ _ e => e
theorem B.out {t : Sem α} {Q : α → Frm → Phi → Prop} (h : B C d L t Q m φ) {A : Around} (r : Room d A) (F : FS C L m φ ρ s) :
    wpAny (model C.prog C.w) A t (fun v s' => ∃ m' φ', FS C L m' φ' ρ s' ∧ Q v m' φ') (fun _ _ => False) s :=
  wpAny_mono (h F.none ρ A s r F.ap F.st) (fun v s' ⟨ψ, ap, st, m', φ', n, e, q⟩ => ⟨m', φ', ⟨n, e ▸ ap, e ▸ st⟩, q⟩) fun _ _ e => e
/-- the same, behind any raw rule -/
theorem B.then {t : Sem α} {Q : α → Frm → Phi → Prop} {Q' : α → Shared → Prop} {E : Value → Shared → Prop} (h : B C d L t Q m φ) {A : Around} (r : Room d A) (F : FS C L m φ ρ s)
    (k : ∀ v m' φ' s', FS C L m' φ' ρ s' → Q v m' φ' → Q' v s') : wpAny (model C.prog C.w) A t Q' E s :=
  wpAny_mono (h.out r F) (fun v s' ⟨m', φ', F', q⟩ => k v m' φ' s' F' q) fun _ _ e => e.elim
theorem B.pure {a : α} {Q : α → Frm → Phi → Prop} (h : Q a m φ) : B C d L (Pure.pure a) Q m φ := .raw fun _ _ _ _ F => wpAny_pure ⟨m, φ, F, h⟩
theorem B.mono {t : Sem α} {Q Q' : α → Frm → Phi → Prop} (h : B C d L t Q m φ) (k : ∀ a m' ψ, Q a m' ψ → Q' a m' ψ) : B C d L t Q' m φ :=
  .raw fun _ _ _ r F => h.then r F fun _ _ _ _ F' q => ⟨_, _, F', k _ _ _ q⟩
theorem B.bind {t : Sem α} {f : α → Sem β} {Q : β → Frm → Phi → Prop} (h : B C d L t (fun a m' ψ => B C d L (f a) Q m' ψ) m φ) : B C d L (t >>= f) Q m φ :=
  .raw fun _ _ _ r F => wpAny_bind (h.then r F fun _ _ _ _ F' q => q.out r F')
theorem B.le {t : Sem α} {Q : α → Frm → Phi → Prop} {d' : Nat} (h : B C d L t Q m φ) (k : d ≤ d') : B C d' L t Q m φ := fun n => (h n).le k
/-- forget a part of the heap -/
theorem B.weak {t : Sem α} {Q Q' : α → Frm → Phi → Prop} (h : B C d L t Q m φ) (k : ∀ a m' ψ, Q a m' ψ → ∃ χ, Le χ ψ ∧ Q' a m' χ) : B C d L t Q' m φ := fun n =>
  (h n).forget fun a ψ ⟨m', φ', n', e, q⟩ => let ⟨χ, l, q'⟩ := k _ _ _ q
    ⟨upd χ L (.ns m'), fun b y z => by
      subst e
      by_cases hb : b = L
      · subst hb; rw [upd_same] at z ⊢; exact z
      · have z' : χ b = some y := by unfold upd at z; rwa [if_neg hb] at z
        exact upd_ne hb (l _ _ z'), m', χ, l.none n', rfl, q'⟩
theorem B.of_eq {t : Sem α} {Q : α → Frm → Phi → Prop} {a : α} (e : t = Pure.pure a) (h : Q a m φ) : B C d L t Q m φ := e ▸ B.pure h
/-- a call that knows nothing of the frame -/
theorem B.call {t : Sem α} {Q : α → Phi → Prop} (h : W C d t Q φ) : B C d L t (fun v m' φ' => m' = m ∧ Q v φ') m φ := fun hn => by
  have ap : Apart φ (fun b => if b = L then some (.ns m) else Option.none) := fun b => by
    by_cases hb : b = L
    · subst hb; exact .inl hn
    · exact .inr (if_neg hb)
  have e : ∀ φ' : Phi, φ' L = Option.none → join φ' (fun b => if b = L then some (.ns m) else Option.none) = upd φ' L (.ns m) := fun φ' n => by
    funext b; unfold join upd
    by_cases hb : b = L
    · subst hb; simp only [n, if_true]
    · simp only [if_neg hb]; cases φ' b <;> rfl
  have := h.frame ap
  rw [e φ hn] at this
  refine this.mono fun v ψ ⟨φ', ap', eq, q⟩ => ?_
  have n' : φ' L = Option.none := (ap' L).resolve_right (by simp)
  exact ⟨m, φ', n', eq.trans (e φ' n'), rfl, q⟩
theorem B.call' {t : Sem α} {Q : α → Phi → Prop} {Q' : α → Frm → Phi → Prop} (h : W C d t Q φ) (k : ∀ v φ', Q v φ' → Q' v m φ') : B C d L t Q' m φ :=
  (B.call h).mono fun v m' φ' ⟨e, q⟩ => e ▸ k v φ' q
end

/-- an expression; its value comes without tokens -/
def E (C : Cx) (d : Nat) (env : Env) (e : Expr) (Q : Value → Frm → Phi → Prop) (m : Frm) (φ : Phi) : Prop := B C d env.locals (eval e env) (fun v => Q (er v)) m φ
def Es (C : Cx) (d : Nat) (env : Env) (es : List Expr) (Q : List Value → Frm → Phi → Prop) (m : Frm) (φ : Phi) : Prop :=
  ∀ pos, B C d env.locals (spliced (backTo pos (starEach es env))) (fun vs => Q (vs.map er)) m φ
def T (C : Cx) (d : Nat) (env : Env) (e : Expr) (Q : Bool → Frm → Phi → Prop) (m : Frm) (φ : Phi) : Prop := B C d env.locals (isTrue e env (eval e env)) Q m φ
def erF : Flow → Flow
  | .ret v => .ret (er v)
  | f => f
def S (C : Cx) (d : Nat) (env : Env) (st : Stmt) (Q : Flow → Frm → Phi → Prop) (m : Frm) (φ : Phi) : Prop := B C d env.locals (exec st env) (fun f => Q (erF f)) m φ
def Ss (C : Cx) (d : Nat) (env : Env) (sts : List Stmt) (Q : Flow → Frm → Phi → Prop) (m : Frm) (φ : Phi) : Prop := B C d env.locals (execs sts env) (fun f => Q (erF f)) m φ
/-- an operation upon values whose tokens do not count -/
def Op1 (C : Cx) (d : Nat) (L : Addr) (f : Value → Sem Value) (a : Value) (Q : Value → Frm → Phi → Prop) (m : Frm) (φ : Phi) : Prop := ∀ v, er v = a → B C d L (f v) (fun v => Q (er v)) m φ
def Op2 (C : Cx) (d : Nat) (L : Addr) (f : Value → Value → Sem Value) (a b : Value) (Q : Value → Frm → Phi → Prop) (m : Frm) (φ : Phi) : Prop :=
  ∀ v w, er v = a → er w = b → B C d L (f v w) (fun v => Q (er v)) m φ
def Tr (C : Cx) (d : Nat) (L : Addr) (a : Value) (Q : Bool → Frm → Phi → Prop) (m : Frm) (φ : Phi) : Prop := ∀ v, er v = a → B C d L (truthy v) Q m φ
/-- an assignment's target -/
def Ag (C : Cx) (d : Nat) (env : Env) (t : Expr) (a : Value) (Q : Frm → Phi → Prop) (m : Frm) (φ : Phi) : Prop := ∀ v, er v = a → B C d env.locals (assign t env v) (fun _ => Q) m φ
def CallV (C : Cx) (d : Nat) (L : Addr) (f : Value) (args : List Value) (Q : Value → Frm → Phi → Prop) (m : Frm) (φ : Phi) : Prop := ∀ vs, vs.map er = args → B C d L (call f vs []) (fun v => Q (er v)) m φ

def Ts (C : Cx) (d : Nat) (env : Env) (op : BoolOp) (es : List Expr) (Q : Bool → Frm → Phi → Prop) (m : Frm) (φ : Phi) : Prop := B C d env.locals (allTrue op es env) Q m φ
/-! what follows, once named -/
def seqK (C : Cx) (d : Nat) (env : Env) (rest : List Stmt) (Q : Flow → Frm → Phi → Prop) (f : Flow) (m : Frm) (φ : Phi) : Prop := match f with | .next => Ss C d env rest Q m φ | f => Q f m φ
def ifK (C : Cx) (d : Nat) (env : Env) (b o : List Stmt) (Q : Flow → Frm → Phi → Prop) (c : Bool) (m : Frm) (φ : Phi) : Prop := if c = true then Ss C d env b Q m φ else Ss C d env o Q m φ
def expK (C : Cx) (d : Nat) (env : Env) (b o : Expr) (Q : Value → Frm → Phi → Prop) (c : Bool) (m : Frm) (φ : Phi) : Prop := if c = true then E C d env b Q m φ else E C d env o Q m φ
def andK (C : Cx) (d : Nat) (env : Env) (rest : List Expr) (Q : Bool → Frm → Phi → Prop) (c : Bool) (m : Frm) (φ : Phi) : Prop := if c = true then Ts C d env .And rest Q m φ else Q false m φ
def orK (C : Cx) (d : Nat) (env : Env) (rest : List Expr) (Q : Bool → Frm → Phi → Prop) (c : Bool) (m : Frm) (φ : Phi) : Prop := if c = true then Q true m φ else Ts C d env .Or rest Q m φ
def loopK (J : Frm → Phi → Prop) (Q : Flow → Frm → Phi → Prop) (f : Flow) (m : Frm) (φ : Phi) : Prop := match f with | .next | .cont => J m φ | .brk => Q .next m φ | .ret v => Q (.ret v) m φ
theorem loopK_next {J : Frm → Phi → Prop} {Q : Flow → Frm → Phi → Prop} {m φ} (h : J m φ) : loopK J Q .next m φ := h
theorem loopK_cont {J : Frm → Phi → Prop} {Q : Flow → Frm → Phi → Prop} {m φ} (h : J m φ) : loopK J Q .cont m φ := h
theorem loopK_brk {J : Frm → Phi → Prop} {Q : Flow → Frm → Phi → Prop} {m φ} (h : Q .next m φ) : loopK J Q .brk m φ := h
theorem loopK_ret {J : Frm → Phi → Prop} {Q : Flow → Frm → Phi → Prop} {m φ v} (h : Q (.ret v) m φ) : loopK J Q (.ret v) m φ := h
section
variable {C : Cx} {d : Nat} {env : Env} {m : Frm} {φ : Phi}
theorem seqK_next {rest : List Stmt} {Q : Flow → Frm → Phi → Prop} (h : Ss C d env rest Q m φ) : seqK C d env rest Q .next m φ := h
theorem seqK_brk {rest : List Stmt} {Q : Flow → Frm → Phi → Prop} (h : Q .brk m φ) : seqK C d env rest Q .brk m φ := h
theorem seqK_cont {rest : List Stmt} {Q : Flow → Frm → Phi → Prop} (h : Q .cont m φ) : seqK C d env rest Q .cont m φ := h
theorem seqK_ret {rest : List Stmt} {Q : Flow → Frm → Phi → Prop} {v} (h : Q (.ret v) m φ) : seqK C d env rest Q (.ret v) m φ := h
theorem ifK_tt {b o : List Stmt} {Q : Flow → Frm → Phi → Prop} (h : Ss C d env b Q m φ) : ifK C d env b o Q true m φ := h
theorem ifK_ff {b o : List Stmt} {Q : Flow → Frm → Phi → Prop} (h : Ss C d env o Q m φ) : ifK C d env b o Q false m φ := by unfold ifK; exact h
theorem expK_tt {b o : Expr} {Q : Value → Frm → Phi → Prop} (h : E C d env b Q m φ) : expK C d env b o Q true m φ := h
theorem expK_ff {b o : Expr} {Q : Value → Frm → Phi → Prop} (h : E C d env o Q m φ) : expK C d env b o Q false m φ := by unfold expK; exact h
theorem andK_tt {rest : List Expr} {Q : Bool → Frm → Phi → Prop} (h : Ts C d env .And rest Q m φ) : andK C d env rest Q true m φ := h
theorem andK_ff {rest : List Expr} {Q : Bool → Frm → Phi → Prop} (h : Q false m φ) : andK C d env rest Q false m φ := by unfold andK; exact h
theorem orK_tt {rest : List Expr} {Q : Bool → Frm → Phi → Prop} (h : Q true m φ) : orK C d env rest Q true m φ := h
theorem orK_ff {rest : List Expr} {Q : Bool → Frm → Phi → Prop} (h : Ts C d env .Or rest Q m φ) : orK C d env rest Q false m φ := by unfold orK; exact h
end

section
variable {C : Cx} {d : Nat} {env : Env} {m : Frm} {φ : Phi} {Q : Value → Frm → Phi → Prop}

-- names
theorem E_local {x : Str} {pos : Pos} {v : Value} (hm : m x = some v) (h : Q v m φ) (hk : env.scope.kind = .function := by rfl) (hx : env.kindOf x = some .local := by rfl)
    (hd : (x == ("__debug__" : Str)) = false := by decide) : E C d env (.Name x pos) Q m φ := .raw fun ρ A s r F => by
  obtain ⟨m', hn, he⟩ := F.ns
  have := he x
  rw [hm] at this
  cases hv : m' x with
  | none => rw [hv] at this; cases this
  | some u =>
    rw [hv] at this
    have e : er u = v := Option.some.inj this
    exact wpAny_Name (wpAny_loadName_local hk hx hn hv ⟨m, φ, F, e ▸ h⟩) hd
theorem E_cell {x : Str} {pos : Pos} {c : Addr} {v : Value} (hc : env.cells.lookup x = some c) (hv : φ c = some (.cell (some v))) (h : Q v m φ) (hk : env.scope.kind = .function := by rfl)
    (hx : env.kindOf x = some .cell := by rfl) (hd : (x == ("__debug__" : Str)) = false := by decide) : E C d env (.Name x pos) Q m φ := .raw fun ρ A s r F => by
  obtain ⟨v', hcell, he⟩ := F.sat hv
  cases v' with
  | none => cases he
  | some u =>
    have e : er u = v := Option.some.inj he
    exact wpAny_Name (wpAny_loadName_cell hk hx hc hcell ⟨m, φ, F, e ▸ h⟩) hd
theorem E_free {x : Str} {pos : Pos} {c : Addr} {v : Value} (hc : env.cells.lookup x = some c) (hv : φ c = some (.cell (some v))) (h : Q v m φ) (hk : env.scope.kind = .function := by rfl)
    (hx : env.kindOf x = some .free := by rfl) (hd : (x == ("__debug__" : Str)) = false := by decide) (hn : (x == ("__classdict__" : Str)) = false := by decide) : E C d env (.Name x pos) Q m φ := .raw fun ρ A s r F => by
  obtain ⟨v', hcell, he⟩ := F.sat hv
  cases v' with
  | none => cases he
  | some u =>
    have e : er u = v := Option.some.inj he
    exact wpAny_Name (wpAny_loadName_free hk hx hc hcell ⟨m, φ, F, e ▸ h⟩ hn) hd

structure Globs (C : Cx) : Prop where
  g : C.s₀.heap.Ns mainGlobals C.mg
  b : C.s₀.heap.Ns builtinsNs C.mb
  nolimit : C.s₀.heap.NoLimit

theorem E_global {x : Str} {pos : Pos} {v : Value} (G : Globs C) (e : C.mg x = some v) (h : Q (er v) m φ) (hg : env.globals = mainGlobals := by rfl) (hk : env.scope.kind = .function := by rfl)
    (hx : env.kindOf x = some .globalImplicit := by rfl) (hd : (x == ("__debug__" : Str)) = false := by decide) : E C d env (.Name x pos) Q m φ := .raw fun ρ A s r F =>
  Calls.Name_function_global hk hx (Calls.loadGlobal_global (mg := C.mg) (hg ▸ G.g.keeps F.stays) e ⟨m, φ, F, h⟩) hd
theorem E_builtin {x : Str} {pos : Pos} {v : Value} (G : Globs C) (e : C.mg x = none) (e' : C.mb x = some v) (h : Q (er v) m φ) (hg : env.globals = mainGlobals := by rfl) (hb : env.builtins = builtinsNs := by rfl) (hk : env.scope.kind = .function := by rfl)
    (hx : env.kindOf x = some .globalImplicit := by rfl) (hd : (x == ("__debug__" : Str)) = false := by decide) : E C d env (.Name x pos) Q m φ := .raw fun ρ A s r F =>
  Calls.Name_function_global hk hx (Calls.loadGlobal_builtin (mg := C.mg) (mb := C.mb) (hg ▸ G.g.keeps F.stays) e (hb ▸ G.b.keeps F.stays) e' ⟨m, φ, F, h⟩) hd

-- constants
theorem E_int {i k pos} (h : Q (.int i 0) m φ) : E C d env (.Constant (.int i) k pos) Q m φ := .raw fun ρ A s r F => wpAny_Constant_int ⟨m, φ, F.tok, h⟩
theorem E_none {k pos} (h : Q .none m φ) : E C d env (.Constant .none k pos) Q m φ := .raw fun ρ A s r F => wpAny_Constant_none ⟨m, φ, F, h⟩
theorem E_bool {b k pos} (h : Q (.bool b) m φ) : E C d env (.Constant (.bool b) k pos) Q m φ := .raw fun ρ A s r F => wpAny_Constant_bool ⟨m, φ, F, h⟩

-- operators
theorem E_BinOp {l op r pos} (h : E C d env l (fun a => E C d env r (fun b => Op2 C d env.locals (binaryOp op) a b Q)) m φ) : E C d env (.BinOp l op r pos) Q m φ := .raw fun ρ A s ro F =>
  wpAny_BinOp (h.then ro F fun v m' φ' s' F' q => q.then ro F' fun w m'' φ'' s'' F'' q' => (q' v w rfl rfl).out ro F'')
theorem E_UnaryOp {op x pos} (h : E C d env x (fun a => Op1 C d env.locals (unaryOp op) a Q) m φ) : E C d env (.UnaryOp op x pos) Q m φ := .raw fun ρ A s ro F =>
  wpAny_UnaryOp (h.then ro F fun v m' φ' s' F' q => (q v rfl).out ro F')
theorem E_Compare {l op r pos} (h : E C d env l (fun a => E C d env r (fun b => Op2 C d env.locals (compareOp op) a b Q)) m φ) (hm : behindInMarks op r = false := by with_unfolding_all rfl) :
    E C d env (.Compare l [op] [r] pos) Q m φ := .raw fun ρ A s ro F =>
  wpAny_Compare1 (h.then ro F fun v m' φ' s' F' q => q.then ro F' fun w m'' φ'' s'' F'' q' => (q' v w rfl rfl).out ro F'') hm
theorem E_IfExp {t b o pos} (h : T C d env t (expK C d env b o Q) m φ) : E C d env (.IfExp t b o pos) Q m φ := .raw fun ρ A s ro F =>
  wpAny_IfExp (h.then ro F fun v m' φ' s' F' q => by
    cases v with
    | true => exact B.out q ro F'
    | false => exact B.out q ro F')
theorem E_Subscript {value slice pos} (h : E C d env value (fun a => E C d env slice (fun b => Op2 C d env.locals (subscriptTail value slice) a b Q)) m φ) : E C d env (.Subscript value slice pos) Q m φ := .raw fun ρ A s ro F =>
  Subscript_ (h.then ro F fun v m' φ' s' F' q => q.then ro F' fun w m'' φ'' s'' F'' q' => (q' v w rfl rfl).out ro F'')
theorem Es_nil {Q : List Value → Frm → Phi → Prop} (h : Q [] m φ) : Es C d env [] Q m φ := fun _ => .raw fun ρ A s ro F => wpAny_items_nil ⟨m, φ, F, h⟩
theorem Es_cons {e : Expr} {rest : List Expr} {Q : List Value → Frm → Phi → Prop} (h : E C d env e (fun v => Es C d env rest (fun vs => Q (v :: vs))) m φ)
    (he : starEach (e :: rest) env = (false, eval e env) :: starEach rest env := by rfl) : Es C d env (e :: rest) Q m φ := fun pos => .raw fun ρ A s ro F =>
  wpAny_items_cons (h.then ro F fun v m' φ' s' F' q => (q pos).then ro F' fun vs m'' φ'' s'' F'' q' => ⟨m'', φ'', F'', q'⟩) he

-- tests
theorem T_Compare {l op r pos} {Q : Bool → Frm → Phi → Prop} (h : E C d env l (fun a => E C d env r (fun b => Op2 C d env.locals (compareOp op) a b (fun c => Tr C d env.locals c Q))) m φ)
    (hm : behindInMarks op r = false := by with_unfolding_all rfl) : T C d env (.Compare l [op] [r] pos) Q m φ := .raw fun ρ A s ro F =>
  wpAny_isTrue_Compare1 (h.then ro F fun v m' φ' s' F' q => q.then ro F' fun w m'' φ'' s'' F'' q' => (q' v w rfl rfl).then ro F'' fun c m3 φ3 s3 F3 q3 => (q3 c rfl).out ro F3) hm
theorem T_Not {x pos} {Q : Bool → Frm → Phi → Prop} (h : T C d env x (fun b => Q (!b)) m φ) : T C d env (.UnaryOp .Not x pos) Q m φ := .raw fun ρ A s ro F =>
  wpAny_isTrue_Not (h.then ro F fun v m' φ' s' F' q => ⟨m', φ', F', q⟩)
theorem T_value {e : Expr} {Q : Bool → Frm → Phi → Prop} (h : E C d env e (fun a => Tr C d env.locals a Q) m φ)
    (he : isTrue e env (eval e env) = (do let v ← eval e env; standAt e.pos; holding [v] (truthy v)) := by rfl) : T C d env e Q m φ := .raw fun ρ A s ro F =>
  wpAny_isTrue_value (h.then ro F fun v m' φ' s' F' q => (q v rfl).out ro F') he
theorem T_BoolOp {op es pos} {Q : Bool → Frm → Phi → Prop} (h : Ts C d env op es Q m φ) : T C d env (.BoolOp op es pos) Q m φ := .raw fun ρ A s ro F => wpAny_isTrue_BoolOp (h.out ro F)
theorem Ts_And_nil {Q : Bool → Frm → Phi → Prop} (h : Q true m φ) : Ts C d env .And [] Q m φ := .raw fun ρ A s ro F => wpAny_allTrue_And_nil ⟨m, φ, F, h⟩
theorem Ts_Or_nil {Q : Bool → Frm → Phi → Prop} (h : Q false m φ) : Ts C d env .Or [] Q m φ := .raw fun ρ A s ro F => wpAny_allTrue_Or_nil ⟨m, φ, F, h⟩
theorem Ts_And_cons {x rest} {Q : Bool → Frm → Phi → Prop} (h : T C d env x (andK C d env rest Q) m φ) : Ts C d env .And (x :: rest) Q m φ := .raw fun ρ A s ro F =>
  wpAny_allTrue_And_cons (h.then ro F fun v m' φ' s' F' q => by
    cases v with
    | true => exact B.out q ro F'
    | false => exact ⟨m', φ', F', q⟩)
theorem Ts_Or_cons {x rest} {Q : Bool → Frm → Phi → Prop} (h : T C d env x (orK C d env rest Q) m φ) : Ts C d env .Or (x :: rest) Q m φ := .raw fun ρ A s ro F =>
  wpAny_allTrue_Or_cons (h.then ro F fun v m' φ' s' F' q => by
    cases v with
    | true => exact ⟨m', φ', F', q⟩
    | false => exact B.out q ro F')
theorem Tr_bool {b : Bool} {L} {Q : Bool → Frm → Phi → Prop} (h : Q b m φ) : Tr C d L (.bool b) Q m φ := fun v e => by
  rw [er_bool e]; exact .raw fun ρ A s ro F => wpAny_truthy_bool ⟨m, φ, F, h⟩

-- statements
theorem Ss_nil {Q : Flow → Frm → Phi → Prop} (h : Q .next m φ) : Ss C d env [] Q m φ := .raw fun ρ A s ro F => wpAny_execs_nil ⟨m, φ, F, h⟩
theorem Ss_cons {st rest} {Q : Flow → Frm → Phi → Prop} (h : S C d env st (seqK C d env rest Q) m φ) : Ss C d env (st :: rest) Q m φ := .raw fun ρ A s ro F =>
  wpAny_execs_cons (h.then ro F fun f m' φ' s' F' q => by
    cases f with
    | next => exact B.out q ro F'
    | brk => exact ⟨m', φ', F', q⟩
    | cont => exact ⟨m', φ', F', q⟩
    | ret v => exact ⟨m', φ', F', q⟩)
theorem S_If {t b o pos} {Q : Flow → Frm → Phi → Prop} (h : T C d env t (ifK C d env b o Q) m φ) : S C d env (.If t b o pos) Q m φ := .raw fun ρ A s ro F =>
  wpAny_If (h.then ro F fun v m' φ' s' F' q => by
    cases v with
    | true => exact B.out q ro F'
    | false => exact B.out q ro F')
theorem S_Return {e pos} {Q : Flow → Frm → Phi → Prop} (h : E C d env e (fun v => Q (.ret v)) m φ) : S C d env (.Return (some e) pos) Q m φ := .raw fun ρ A s ro F =>
  wpAny_Return_some (h.then ro F fun v m' φ' s' F' q => ⟨m', φ', F', q⟩)
theorem S_Break {pos} {Q : Flow → Frm → Phi → Prop} (h : Q .brk m φ) : S C d env (.Break pos) Q m φ := .raw fun ρ A s ro F => wpAny_Break ⟨m, φ, F, h⟩
theorem S_Continue {pos} {Q : Flow → Frm → Phi → Prop} (h : Q .cont m φ) : S C d env (.Continue pos) Q m φ := .raw fun ρ A s ro F => wpAny_Continue ⟨m, φ, F, h⟩
theorem S_Expr {e pos} {Q : Flow → Frm → Phi → Prop} (h : E C d env e (fun _ => Q .next) m φ) (hi : interactive env = false := by rfl) (hs : swapsWith e none pos.line env = pure false := by rfl) :
    S C d env (.Expr e pos) Q m φ := .raw fun ρ A s ro F => wpAny_Expr_any (h.then ro F fun v m' φ' s' F' q => ⟨m', φ', F', q⟩) hi hs

/-- the name of a frame is stored -/
theorem B_store {x : Str} {v : Value} {Q : Unit → Frm → Phi → Prop} (h : Q () (fset m x (er v)) φ) (hk : env.scope.kind = .function := by rfl) (hx : env.kindOf x = some .local := by rfl) :
    B C d env.locals (storeName env x v) Q m φ := .raw fun ρ A s ro F => by
  obtain ⟨m', hn, he⟩ := F.ns
  refine wpAny_storeName_local hx hn (fun h' hn' hs => ⟨_, φ, F.store (fun b o hb e => (hs.2 b hb).trans e) ⟨_, hn', fun y => ?_⟩, h⟩) ?_
  · unfold fset
    by_cases hy : y = x
    · simp [hy]
    · simp only [if_neg hy]; exact he y
  · rw [hk]; rfl
theorem B_storeC {x : Str} {v : Value} {c : Addr} {v₀ : Option Value} {Q : Unit → Frm → Phi → Prop} (hc : env.cells.lookup x = some c) (hv : φ c = some (.cell v₀)) (h : Q () m (upd φ c (.cell (some (er v)))))
    (hk : env.scope.kind = .function := by rfl) (hx : env.kindOf x = some .cell := by rfl) : B C d env.locals (storeName env x v) Q m φ := .raw fun ρ A s ro F => by
  obtain ⟨v', hcell, he⟩ := F.sat hv
  exact wpAny_storeName_cell hk hx hc hcell fun h' hv' hs => ⟨m, _, F.set (tk := s.toks) (x := .cell (some (er v))) hv (fun b o hb e => (hs.2 b hb).trans e) ⟨_, hv', rfl⟩, h⟩
theorem S_Assign {x pos' value pos} {Q : Flow → Frm → Phi → Prop} (h : E C d env value (fun v m' φ' => Q .next (fset m' x v) φ') m φ) (hk : env.scope.kind = .function := by rfl) (hx : env.kindOf x = some .local := by rfl)
    (hs : swapsWith value (some (.Name x pos')) pos.line env = pure false := by rfl) : S C d env (.Assign [.Name x pos'] value pos) Q m φ := .raw fun ρ A s ro F =>
  wpAny_Assign_Name (h.then ro F fun v m' φ' s' F' q => (B_store (Q := fun _ => Q .next) q hk hx).then ro F' fun _ m'' φ'' s'' F'' q' => ⟨m'', φ'', F'', q'⟩) hs
theorem S_AssignC {x pos' value pos} {c : Addr} {Q : Flow → Frm → Phi → Prop} (hc : env.cells.lookup x = some c) (h : E C d env value (fun v m' φ' => ∃ v₀, φ' c = some (.cell v₀) ∧ Q .next m' (upd φ' c (.cell (some v)))) m φ)
    (hk : env.scope.kind = .function := by rfl) (hx : env.kindOf x = some .cell := by rfl)
    (hs : swapsWith value (some (.Name x pos')) pos.line env = pure false := by rfl) : S C d env (.Assign [.Name x pos'] value pos) Q m φ := .raw fun ρ A s ro F =>
  wpAny_Assign_Name (h.then ro F fun v m' φ' s' F' q => by
    obtain ⟨v₀, hv, q⟩ := q
    exact (B_storeC (Q := fun _ => Q .next) hc hv q hk hx).then ro F' fun _ m'' φ'' s'' F'' q' => ⟨m'', φ'', F'', q'⟩) hs
theorem Ag_Name {x pos} {a : Value} {Q : Frm → Phi → Prop} (h : Q (fset m x a) φ) (hk : env.scope.kind = .function := by rfl) (hx : env.kindOf x = some .local := by rfl) : Ag C d env (.Name x pos) a Q m φ := fun v e => .raw fun ρ A s ro F =>
  wpAny_assign_Name ((B_store (Q := fun _ => Q) (e ▸ h) hk hx).then ro F fun _ m'' φ'' s'' F'' q' => ⟨m'', φ'', F'', q'⟩)
end

end Mine

namespace Mine

theorem map_er_get {items : List Value} {xs : List Value} (h : items.map er = xs) {i : Nat} {v : Value} (e : xs[i]? = some v) : ∃ u, items[i]? = some u ∧ er u = v := by
  subst h
  rw [List.getElem?_map] at e
  cases q : items[i]? with
  | none => rw [q] at e; cases e
  | some u => rw [q] at e; exact ⟨u, rfl, Option.some.inj e⟩
theorem arr_er_get {items : Array Value} {xs : List Value} (h : items.toList.map er = xs) {i : Nat} {v : Value} (e : xs[i]? = some v) : ∃ u, items[i]? = some u ∧ er u = v := by
  obtain ⟨u, q, r⟩ := map_er_get h e
  exact ⟨u, by rw [← Array.getElem?_toList]; exact q, r⟩
theorem arr_er_size {items : Array Value} {xs : List Value} (h : items.toList.map er = xs) : items.size = xs.length := by
  rw [← h]; simp

section
variable {C : Cx} {d : Nat} {L : Addr} {m : Frm} {φ ρ : Phi} {s : Shared}
theorem FS.lst (F : FS C L m φ ρ s) {a xs} (h : φ a = some (.lst xs)) : ∃ items n, IsL s.heap a items n ∧ items.toList.map er = xs ∧ items.size ≤ sizeLine ∧ items.size = xs.length := by
  obtain ⟨items, n, q, e, l⟩ := F.sat h
  exact ⟨items, n, q, e, arr_er_size e ▸ l, arr_er_size e⟩
theorem FS.tup (F : FS C L m φ ρ s) {a xs} (h : φ a = some (.tup xs)) : ∃ items n, IsT s.heap a items n ∧ items.toList.map er = xs ∧ items.size = xs.length := by
  obtain ⟨items, n, q, e⟩ := F.sat h
  exact ⟨items, n, q, e, arr_er_size e⟩
theorem FS.push (F : FS C L m φ ρ s) {o : Obj} {x : AO} {tk : Nat} (hs : Sat (s.heap.push o) s.heap.objs.size x) :
    φ s.heap.objs.size = Option.none ∧ s.heap.objs.size ≠ L ∧ FS C L m (upd φ s.heap.objs.size x) ρ { s with heap := s.heap.push o, toks := tk } :=
  F.alloc (fun _ _ e => Heap.get?_push_of_some _ e) (by
    cases e : s.heap.get? s.heap.objs.size with
    | none => rfl
    | some o => exact absurd (Heap.lt_size e) (Nat.lt_irrefl _)) hs
theorem FS.updL (F : FS C L m φ ρ s) {a xs ys} {items : Array Value} {n : Nat} {f : Array Value → Array Value} {tk : Nat} (h : φ a = some (.lst xs)) (hi : IsL s.heap a items n) (hf : (f items).toList.map er = ys) (hn : ys.length ≤ sizeLine) :
    FS C L m (upd φ a (.lst ys)) ρ { s with heap := s.heap.update a (Obj.mapSeq f), toks := tk } :=
  F.set h (fun b o hb e => (Heap.get?_update_other _ _ (Ne.symm hb)).trans e) ⟨f items, _, IsL.update hi f, hf, hn⟩
theorem sat_newL (h : Heap) (vs : List Value) (k : vs.length ≤ sizeLine) : Sat (h.push { cls := .type "list", data := .seq vs.toArray }) h.objs.size (.lst (vs.map er)) :=
  ⟨vs.toArray, 0, Heap.get?_push_size _ rfl, rfl, by simpa using k⟩
theorem sat_newT (h : Heap) (vs : List Value) : Sat (h.push { cls := .type "tuple", data := .seq vs.toArray }) h.objs.size (.tup (vs.map er)) :=
  ⟨vs.toArray, 0, Heap.get?_push_size _ rfl, rfl⟩
end

section
variable {C : Cx} {d : Nat} {env : Env} {m : Frm} {φ : Phi} {Q : Value → Frm → Phi → Prop}

theorem E_Tuple {elts k pos} (h : Es C d env elts (fun vs m' φ' => vs.length ≤ 1000 ∧ ∀ a, φ' a = none → Q (.ref a) m' (upd φ' a (.tup vs))) m φ) : E C d env (.Tuple elts k pos) Q m φ := .raw fun ρ A s ro F =>
  wpAny_Tuple ((h pos).then ro F fun vs m' φ' s' F' q => by
    have hl : vs.length ≤ 1000 := by simpa using q.1
    obtain ⟨n, _, F''⟩ := F'.push (tk := s'.toks) (sat_newT s'.heap vs)
    exact ⟨by rw [sizeLine_eq]; omega, m', _, F'', q.2 _ n⟩)
theorem E_List {elts pos} (h : Es C d env elts (fun vs m' φ' => vs.length ≤ 1000 ∧ ∀ a, φ' a = none → Q (.ref a) m' (upd φ' a (.lst vs))) m φ) : E C d env (.List elts pos) Q m φ := .raw fun ρ A s ro F =>
  wpAny_List ((h pos).then ro F fun vs m' φ' s' F' q => by
    have hl : vs.length ≤ 1000 := by simpa using q.1
    have hl' : vs.length ≤ sizeLine := by rw [sizeLine_eq]; omega
    obtain ⟨n, _, F''⟩ := F'.push (tk := s'.toks) (sat_newL s'.heap vs hl')
    exact ⟨hl', m', _, F'', q.2 _ n⟩)

-- calls by a name
theorem E_CallFn {x p args pos} {f : Addr} {o : Obj} {fd : FuncData} (G : Globs C) (e : C.mg x = some (.ref f)) (ho : C.s₀.heap.get? f = some o) (hd : o.data = .func fd)
    (h : Es C d env args (fun vs => CallV C d env.locals (.ref f) vs Q) m φ) (hg : env.globals = mainGlobals := by rfl) (hk : env.scope.kind = .function := by rfl)
    (hx : env.kindOf x = some .globalImplicit := by rfl) (hdb : (x == ("__debug__" : Str)) = false := by decide) (hne : args ≠ [] := by simp)
    (hs : ∀ pos, ∃ y r, backTo pos (starEach args env) = (false, y) :: r := by intro _; exact ⟨_, _, rfl⟩) : E C d env (.Call (.Name x p) args [] pos) Q m φ := .raw fun ρ A s ro F =>
  wpAny_Call_NameR (Calls.Name_function_global hk hx (Calls.loadGlobal_global (mg := C.mg) (hg ▸ G.g.keeps F.stays) e (by
    obtain ⟨y, r, hy⟩ := hs pos
    refine Calls.callWith_function (o := o) (fd := fd) ?_
    rw [hy]
    refine Calls.evalArgs_plain ?_
    rw [← hy]
    exact (h pos).then ro F fun vs m' φ' s' F' q => ⟨⟨F'.stays _ _ ho, hd⟩, (q vs rfl).out ro F'⟩)) hdb)
theorem E_CallB {x p args pos} {id : String} (G : Globs C) (e : C.mg x = none) (e' : C.mb x = some (.builtin id))
    (h : Es C d env args (fun vs => CallV C d env.locals (.builtin id) vs Q) m φ) (hg : env.globals = mainGlobals := by rfl) (hb : env.builtins = builtinsNs := by rfl) (hk : env.scope.kind = .function := by rfl)
    (hx : env.kindOf x = some .globalImplicit := by rfl) (hdb : (x == ("__debug__" : Str)) = false := by decide)
    (hs : ∀ pos, ∃ y r, backTo pos (starEach args env) = (false, y) :: r := by intro _; exact ⟨_, _, rfl⟩)
    (hp : ∀ pos, (backTo pos (starEach args env)).any (·.1) = false := by intro _; rfl) : E C d env (.Call (.Name x p) args [] pos) Q m φ := .raw fun ρ A s ro F =>
  wpAny_Call_NameR (Calls.Name_function_global hk hx (Calls.loadGlobal_builtin (mg := C.mg) (mb := C.mb) (hg ▸ G.g.keeps F.stays) e (hb ▸ G.b.keeps F.stays) e' (by
    obtain ⟨y, r, hy⟩ := hs pos
    refine Calls.callWith_builtin (hp pos) ?_
    rw [hy]
    refine Calls.evalArgs_plain ?_
    rw [← hy]
    exact (h pos).then ro F fun vs m' φ' s' F' q => (q vs rfl).out ro F')) hdb)
theorem E_CallT {x p args pos} {id : String} (G : Globs C) (e : C.mg x = none) (e' : C.mb x = some (.type id))
    (h : Es C d env args (fun vs => CallV C d env.locals (.type id) vs Q) m φ) (hg : env.globals = mainGlobals := by rfl) (hb : env.builtins = builtinsNs := by rfl) (hk : env.scope.kind = .function := by rfl)
    (hx : env.kindOf x = some .globalImplicit := by rfl) (hdb : (x == ("__debug__" : Str)) = false := by decide)
    (hs : ∀ pos, ∃ y r, backTo pos (starEach args env) = (false, y) :: r := by intro _; exact ⟨_, _, rfl⟩)
    (hp : ∀ pos, (backTo pos (starEach args env)).any (·.1) = false := by intro _; rfl) : E C d env (.Call (.Name x p) args [] pos) Q m φ := .raw fun ρ A s ro F =>
  wpAny_Call_NameR (Calls.Name_function_global hk hx (Calls.loadGlobal_builtin (mg := C.mg) (mb := C.mb) (hg ▸ G.g.keeps F.stays) e (hb ▸ G.b.keeps F.stays) e' (by
    obtain ⟨y, r, hy⟩ := hs pos
    refine PySem.callWith_type (hp pos) ?_
    rw [hy]
    refine Calls.evalArgs_plain ?_
    rw [← hy]
    exact (h pos).then ro F fun vs m' φ' s' F' q => (q vs rfl).out ro F')) hdb)
/-- a contract is taken at a call -/
theorem CallV_fn {L : Addr} {f : Value} {args : List Value} {P : Value → Phi → Prop} (h : ∀ vs, vs.map er = args → W C d (call f vs []) (fun v => P (er v)) φ) (k : ∀ v φ', P v φ' → Q v m φ') : CallV C d L f args Q m φ :=
  fun vs e => B.call' (h vs e) fun v φ' p => k _ _ p

theorem ex1 {vs : List Value} {a : Value} (h : vs.map er = [a]) : ∃ v, vs = [v] ∧ er v = a := by
  match vs, h with
  | [v], h => exact ⟨v, rfl, (List.cons.inj h).1⟩
theorem ex2 {vs : List Value} {a b : Value} (h : vs.map er = [a, b]) : ∃ v w, vs = [v, w] ∧ er v = a ∧ er w = b := by
  match vs, h with
  | [v, w], h => exact ⟨v, w, rfl, (List.cons.inj h).1, (List.cons.inj (List.cons.inj h).2).1⟩

-- arithmetic
theorem Op_add {L i j} (h : Q (.int (i + j) 0) m φ) : Op2 C d L (binaryOp .Add) (.int i 0) (.int j 0) Q m φ := fun v w e e' => by
  obtain ⟨t, rfl⟩ := er_int e; obtain ⟨u, rfl⟩ := er_int e'
  exact .raw fun ρ A s ro F => PyProof.Rows.add_int ⟨m, φ, F.tok, h⟩
theorem Op_sub {L i j} (h : Q (.int (i - j) 0) m φ) : Op2 C d L (binaryOp .Sub) (.int i 0) (.int j 0) Q m φ := fun v w e e' => by
  obtain ⟨t, rfl⟩ := er_int e; obtain ⟨u, rfl⟩ := er_int e'
  exact .raw fun ρ A s ro F => PyProof.Rows.sub_int ⟨m, φ, F.tok, h⟩
theorem Op_mul {L i j} (hm : IntMulOk i j) (h : Q (.int (i * j) 0) m φ) : Op2 C d L (binaryOp .Mult) (.int i 0) (.int j 0) Q m φ := fun v w e e' => by
  obtain ⟨t, rfl⟩ := er_int e; obtain ⟨u, rfl⟩ := er_int e'
  exact .raw fun ρ A s ro F => PyProof.Rows.mul_int ⟨m, φ, F.tok, h⟩ hm
theorem Op_rshift {L i j} (hj : 0 ≤ j) (h : Q (.int (i.fdiv (2 ^ j.toNat)) 0) m φ) : Op2 C d L (binaryOp .RShift) (.int i 0) (.int j 0) Q m φ := fun v w e e' => by
  obtain ⟨t, rfl⟩ := er_int e; obtain ⟨u, rfl⟩ := er_int e'
  exact .raw fun ρ A s ro F => rshift_int hj ⟨m, φ, F.tok, h⟩
theorem Op_floordiv {L i j} (hj : j ≠ 0) (hp : Builtin.divisionGoesByPylong i j = false) (h : Q (.int (i.fdiv j) 0) m φ) : Op2 C d L (binaryOp .FloorDiv) (.int i 0) (.int j 0) Q m φ := fun v w e e' => by
  obtain ⟨t, rfl⟩ := er_int e; obtain ⟨u, rfl⟩ := er_int e'
  exact .raw fun ρ A s ro F => floordiv_int hj ⟨m, φ, F.tok, h⟩ (.inl hp)
theorem Op_mod {L i j} (hj : j ≠ 0) (h : Q (.int (i.fmod j) 0) m φ) : Op2 C d L (binaryOp .Mod) (.int i 0) (.int j 0) Q m φ := fun v w e e' => by
  obtain ⟨t, rfl⟩ := er_int e; obtain ⟨u, rfl⟩ := er_int e'
  exact .raw fun ρ A s ro F => mod_int' hj ⟨m, φ, F.tok, h⟩

-- comparisons
theorem Op_lt {L i j} (h : Q (.bool (decide (i < j))) m φ) : Op2 C d L (compareOp .Lt) (.int i 0) (.int j 0) Q m φ := fun v w e e' => by
  obtain ⟨t, rfl⟩ := er_int e; obtain ⟨u, rfl⟩ := er_int e'
  exact .raw fun ρ A s ro F => PyProof.Rows.lt_int ⟨m, φ, F, h⟩
theorem Op_gt {L i j} (h : Q (.bool (decide (j < i))) m φ) : Op2 C d L (compareOp .Gt) (.int i 0) (.int j 0) Q m φ := fun v w e e' => by
  obtain ⟨t, rfl⟩ := er_int e; obtain ⟨u, rfl⟩ := er_int e'
  exact .raw fun ρ A s ro F => PyProof.Rows.gt_int ⟨m, φ, F, h⟩
theorem Op_eq {L i j} (h : Q (.bool (i == j)) m φ) : Op2 C d L (compareOp .Eq) (.int i 0) (.int j 0) Q m φ := fun v w e e' => by
  obtain ⟨t, rfl⟩ := er_int e; obtain ⟨u, rfl⟩ := er_int e'
  exact .raw fun ρ A s ro F => PyProof.Rows.eq_int ⟨m, φ, F, h⟩
theorem Op_ne {L i j} (h : Q (.bool (i != j)) m φ) : Op2 C d L (compareOp .NotEq) (.int i 0) (.int j 0) Q m φ := fun v w e e' => by
  obtain ⟨t, rfl⟩ := er_int e; obtain ⟨u, rfl⟩ := er_int e'
  exact .raw fun ρ A s ro F => PyProof.Rows.ne_int ⟨m, φ, F, h⟩
/-- an int or None -/
def ov : Option Int → Value
  | some i => .int i 0
  | none => .none
theorem er_ov {v : Value} {x : Option Int} (h : er v = ov x) : (x = none ∧ v = .none) ∨ ∃ i t, x = some i ∧ v = .int i t := by
  cases x with
  | none => exact .inl ⟨rfl, er_none h⟩
  | some i => obtain ⟨t, e⟩ := er_int h; exact .inr ⟨i, t, rfl, e⟩
theorem Op_is_ov {L} {x : Option Int} (h : Q (.bool x.isNone) m φ) : Op2 C d L (compareOp .Is) (ov x) .none Q m φ := fun v w e e' => by
  rw [er_none e']
  refine .raw fun ρ A s ro F => is_none ⟨m, φ, F, ?_⟩
  rcases er_ov e with ⟨rfl, rfl⟩ | ⟨i, t, rfl, rfl⟩ <;> exact h
theorem Op_isnot_ov {L} {x : Option Int} (h : Q (.bool x.isSome) m φ) : Op2 C d L (compareOp .IsNot) (ov x) .none Q m φ := fun v w e e' => by
  rw [er_none e']
  refine .raw fun ρ A s ro F => isNot_none ⟨m, φ, F, ?_⟩
  rcases er_ov e with ⟨rfl, rfl⟩ | ⟨i, t, rfl, rfl⟩ <;> exact h
theorem Op_is_ref {L a} (h : Q (.bool false) m φ) : Op2 C d L (compareOp .Is) (.ref a) .none Q m φ := fun v w e e' => by
  rw [er_none e', er_ref e]
  exact .raw fun ρ A s ro F => is_none ⟨m, φ, F, h⟩
theorem Op_isnot_none {L} (h : Q (.bool false) m φ) : Op2 C d L (compareOp .IsNot) .none .none Q m φ := fun v w e e' => by
  rw [er_none e', er_none e]
  exact .raw fun ρ A s ro F => isNot_none ⟨m, φ, F, h⟩
theorem Op_ne_ov {L} {x y : Option Int} (h : Q (.bool (x != y)) m φ) : Op2 C d L (compareOp .NotEq) (ov x) (ov y) Q m φ := fun v w e e' => by
  refine .raw fun ρ A s ro F => ?_
  rcases er_ov e with ⟨rfl, rfl⟩ | ⟨i, t, rfl, rfl⟩ <;> rcases er_ov e' with ⟨rfl, rfl⟩ | ⟨j, u, rfl, rfl⟩
  · exact EqNone.ne_none_none ⟨m, φ, F, h⟩
  · exact EqNone.ne_none_int ⟨m, φ, F, h⟩
  · exact EqNone.ne_int_none ⟨m, φ, F, h⟩
  · refine PyProof.Rows.ne_int ⟨m, φ, F, ?_⟩
    have : (some i != some j) = (i != j) := rfl
    exact this ▸ h
theorem Op_eq_ov {L} {x y : Option Int} (h : Q (.bool (x == y)) m φ) : Op2 C d L (compareOp .Eq) (ov x) (ov y) Q m φ := fun v w e e' => by
  refine .raw fun ρ A s ro F => ?_
  rcases er_ov e with ⟨rfl, rfl⟩ | ⟨i, t, rfl, rfl⟩ <;> rcases er_ov e' with ⟨rfl, rfl⟩ | ⟨j, u, rfl, rfl⟩
  · exact EqNone.eq_none_none ⟨m, φ, F, h⟩
  · exact EqNone.eq_none_int ⟨m, φ, F, h⟩
  · exact EqNone.eq_int_none ⟨m, φ, F, h⟩
  · refine PyProof.Rows.eq_int ⟨m, φ, F, ?_⟩
    have : (some i == some j) = (i == j) := rfl
    exact this ▸ h
theorem Op_not {L a} (h : Tr C d L a (fun b => Q (.bool (!b))) m φ) : Op1 C d L (unaryOp .Not) a Q m φ := fun v e => .raw fun ρ A s ro F =>
  not_value ((h v e).then ro F fun b m' φ' s' F' q => ⟨m', φ', F', q⟩)

-- lists
theorem Op_item {L} {value slice : Expr} {l : Addr} {xs : List Value} {i : Int} {v : Value} (hl : φ l = some (.lst xs)) (h0 : 0 ≤ i) (hx : xs[i.toNat]? = some v) (h : Q v m φ)
    (hs : ∀ u : Nat, subscripted slice false (.ref l) (.int i u) = operate [.ref l, .int i u] (getItem (.ref l) (.int i u)) := by intro _; with_unfolding_all rfl) :
    Op2 C d L (subscriptTail value slice) (.ref l) (.int i 0) Q m φ := fun a b e e' => by
  rw [er_ref e]; obtain ⟨t, rfl⟩ := er_int e'
  refine .raw fun ρ A s ro F => ?_
  obtain ⟨items, n, q, r, sz, sz'⟩ := F.lst hl
  obtain ⟨u, hu, eu⟩ := arr_er_get r hx
  have hlt : i.toNat < items.size := (Array.getElem?_eq_some_iff.mp hu).1
  have h2 : i < 2 ^ 63 := by rw [sizeLine_eq] at sz; omega
  exact tail_any (IsL.isList q).typeIs slot_list_getitem.lookup (wpAny_getItem_list (IsL.isList q) h0 h2 hu ⟨m, φ, F, eu ▸ h⟩) (hs t)
theorem Op_itemT {L} {value slice : Expr} {l : Addr} {xs : List Value} {i : Int} {v : Value} (hl : φ l = some (.tup xs)) (h0 : 0 ≤ i) (h2 : i < 2 ^ 63) (hx : xs[i.toNat]? = some v) (h : Q v m φ)
    (hs : ∀ u : Nat, subscripted slice false (.ref l) (.int i u) = operate [.ref l, .int i u] (getItem (.ref l) (.int i u)) := by intro _; with_unfolding_all rfl) :
    Op2 C d L (subscriptTail value slice) (.ref l) (.int i 0) Q m φ := fun a b e e' => by
  rw [er_ref e]; obtain ⟨t, rfl⟩ := er_int e'
  refine .raw fun ρ A s ro F => ?_
  obtain ⟨items, n, q, r, sz'⟩ := F.tup hl
  obtain ⟨u, hu, eu⟩ := arr_er_get r hx
  have hlt : i.toNat < items.size := (Array.getElem?_eq_some_iff.mp hu).1
  have ht : IsTup s.heap l items := ⟨_, q, rfl, _, rfl⟩
  refine tail_any ht.typeIs slot_tuple_getitem.lookup (getItem_tuple ht (by omega) h2 (j := i.toNat) ?_ hu ⟨m, φ, F, eu ▸ h⟩) (hs t)
  have e1 : (if i < 0 then i + (items.size : Int) else i) = i := if_neg (by omega)
  have e2 : (decide (0 ≤ i) && decide (i < (items.size : Int))) = true := by
    rw [Bool.and_eq_true, decide_eq_true_eq, decide_eq_true_eq]
    exact ⟨h0, by omega⟩
  unfold seqIndex?
  simp only [e1, e2, if_true]
def SetI (C : Cx) (d : Nat) (L : Addr) (a b v : Value) (Q : Frm → Phi → Prop) (m : Frm) (φ : Phi) : Prop := ∀ o i w, er o = a → er i = b → er w = v → B C d L (setItem o i w) (fun _ => Q) m φ
theorem SetI_list {L} {l : Addr} {xs : List Value} {i : Int} {v : Value} {Q : Frm → Phi → Prop} (hl : φ l = some (.lst xs)) (h0 : 0 ≤ i) (hi : i < xs.length) (h : Q m (upd φ l (.lst (xs.set i.toNat v)))) :
    SetI C d L (.ref l) (.int i 0) v Q m φ := fun o b w e e' ew => by
  rw [er_ref e]; obtain ⟨t, rfl⟩ := er_int e'
  refine .raw fun ρ A s ro F => ?_
  obtain ⟨items, n, q, r, sz, sz'⟩ := F.lst hl
  have h2 : i < 2 ^ 63 := by rw [sizeLine_eq] at sz; omega
  refine ki_setAt q h0 h2 (by omega) ⟨m, _, F.updL (tk := s.toks) hl q (f := (·.setIfInBounds i.toNat w)) ?_ ?_, h⟩
  · rw [Array.toList_setIfInBounds, List.map_set, r, ew]
  · rw [List.length_set, ← sz']; exact sz
theorem S_AssignSub {o i pos' value pos} {Q : Flow → Frm → Phi → Prop} (h : E C d env value (fun v => E C d env o (fun a => E C d env i (fun b => SetI C d env.locals a b v (Q .next)))) m φ)
    (hs : swapsWith value (some (.Subscript o i pos')) pos.line env = pure false := by rfl) : S C d env (.Assign [.Subscript o i pos'] value pos) Q m φ := .raw fun ρ A s ro F =>
  wpAny_Assign_Subscript (h.then ro F fun v m' φ' s' F' q => q.then ro F' fun a m2 φ2 s2 F2 q2 => q2.then ro F2 fun b m3 φ3 s3 F3 q3 => (q3 a b v rfl rfl rfl).then ro F3 fun _ m4 φ4 s4 F4 q4 => ⟨m4, φ4, F4, q4⟩) hs
theorem Tr_list {L} {l : Addr} {xs : List Value} {Q : Bool → Frm → Phi → Prop} (hl : φ l = some (.lst xs)) (h : Q (!xs.isEmpty) m φ) : Tr C d L (.ref l) Q m φ := fun v e => by
  rw [er_ref e]
  refine .raw fun ρ A s ro F => ?_
  obtain ⟨items, n, q, r, sz, sz'⟩ := F.lst hl
  refine wpAny_truthy_list (IsL.isList q) (by rw [sizeLine_eq] at sz; omega) ⟨m, φ, F.tok, ?_⟩
  have : items.isEmpty = xs.isEmpty := by
    rw [← r]; cases items with | mk l => cases l <;> simp
  rw [this]; exact h
theorem CallV_len {L} {l : Addr} {xs : List Value} (hl : φ l = some (.lst xs)) (h : Q (.int xs.length 0) m φ) : CallV C d L (.builtin "len") [.ref l] Q m φ := fun vs e => by
  obtain ⟨v, rfl, e'⟩ := ex1 e
  rw [er_ref e']
  refine .raw fun ρ A s ro F => ?_
  obtain ⟨items, n, q, r, sz, sz'⟩ := F.lst hl
  refine Calls.call_len_list (IsL.isList q) (by rw [sizeLine_eq] at sz; omega) ⟨m, φ, F.tok, ?_⟩
  rw [sz']; exact h
end

end Mine

namespace Mine
open MeetsSeq MeetsSeq2 MeetsSeq3 SeqRoads2 SeqAt
open AutoSeq1 (wpAny_loadPart')

abbrev plt (p q : Int × Int) : Prop := p.1 < q.1 ∨ (p.1 = q.1 ∧ p.2 < q.2)

theorem tuple_lt2 (l b : Addr) (n n2 : Nat) (i j i' j' : Int) (t u t' u' : Tok) :
    Meets (Builtin.«tuple.__lt__» ⟨[.ref l, .ref b], []⟩)
      (fun A R s => s.heap.get? l = some { cls := .type "tuple", dict := none, data := .seq #[.int i t, .int j u] n, slots := #[] } ∧ s.heap.get? b = some { cls := .type "tuple", dict := none, data := .seq #[.int i' t', .int j' u'] n2, slots := #[] } ∧
        R (.ok (.ret (.bool (decide (plt (i, j) (i', j')))))) s) :=
  .of_wp fun prog w A R s h => by
    obtain ⟨hp, g, d, tk, os⟩ := s; obtain ⟨hl, hb, h⟩ := h
    have f2 := AutoSeq1.sub_tuple_tuple
    wp_walk using wpAny_loadPart' hl, wpAny_loadPart' hb, wpAny_forIn_list _ (fun rest b s' => b.1 = none ∧ s' = ⟨hp, g, d, tk, os⟩ ∧
      (rest = [(.int i t, .int i' t'), (.int j u, .int j' u')] ∨ (rest = [(.int j u, .int j' u')] ∧ i = i') ∨ (rest = [] ∧ i = i' ∧ j = j'))) _
    case turn =>
      rintro ⟨y, x⟩ rest b s' ⟨hb', rfl, hr⟩
      rcases hr with hr | ⟨hr, e1⟩ | ⟨hr, _⟩
      · cases hr
        refine wpAny_bind (EqAt.int_int _ _ _ _ prog w _ _ ?_)
        by_cases e : i = i'
        · rw [show (i == i') = true from beq_iff_eq.mpr e]
          wp_walk
          exact ⟨rfl, rfl, .inr (.inl ⟨rfl, e⟩)⟩
        · rw [show (i == i') = false from beq_eq_false_iff_ne.mpr e]
          simp only [Bool.not_false, if_true]
          refine wpAny_bind (wpAny_rule ?_)
          refine wpAny_bind (show wpAny _ _ (compareOp .Lt _ _) _ _ _ from PyProof.Rows.lt_int ?_)
          wp_walk
          refine ⟨_, rfl, ?_⟩
          have : decide (i < i') = decide (plt (i, j) (i', j')) := by unfold plt; simp [e]
          rw [this]; exact h
      · cases hr
        refine wpAny_bind (EqAt.int_int _ _ _ _ prog w _ _ ?_)
        by_cases e : j = j'
        · rw [show (j == j') = true from beq_iff_eq.mpr e]
          wp_walk
          exact ⟨rfl, rfl, .inr (.inr ⟨rfl, e1, e⟩)⟩
        · rw [show (j == j') = false from beq_eq_false_iff_ne.mpr e]
          simp only [Bool.not_false, if_true]
          refine wpAny_bind (wpAny_rule ?_)
          refine wpAny_bind (show wpAny _ _ (compareOp .Lt _ _) _ _ _ from PyProof.Rows.lt_int ?_)
          wp_walk
          refine ⟨_, rfl, ?_⟩
          have : decide (j < j') = decide (plt (i, j) (i', j')) := by unfold plt; simp [e1]
          rw [this]; exact h
      · cases hr
    case fin =>
      rintro ⟨b1, b2⟩ s' ⟨hb', rfl, hr⟩
      simp only at hb'
      subst hb'
      rcases hr with hr | ⟨hr, _⟩ | ⟨_, e1, e2⟩
      · cases hr
      · cases hr
      · wp_walk
        refine ⟨_, rfl, ?_⟩
        have : decide (plt (i, j) (i', j')) = false := by unfold plt; simp [e1, e2]
        rw [this] at h
        exact h
    case h =>
      exact ⟨rfl, rfl, .inl rfl⟩

section
variable {prog : Program} {w : World} {A : Around} {E : Value → Shared → Prop} {s : Shared}
theorem lt_tup2 {l b : Addr} {n n2 : Nat} {i j i' j' : Int} {t u t' u' : Tok} {Q : Value → Shared → Prop} (hl : IsT s.heap l #[.int i t, .int j u] n) (hb : IsT s.heap b #[.int i' t', .int j' u'] n2) (hu : A.units < cLine)
    (h : Q (.bool (decide (plt (i, j) (i', j')))) s) : wpAny (model prog w) A (richCompare .Lt (.ref l) (.ref b)) Q E s :=
  richCompare_meets_room (op := .Lt) ⟨_, hl, rfl⟩ ⟨_, hb, rfl⟩ F.slot_tuple_lt F.entry_tuple_lt (F.args_tuple_lt_2 _ _) (tuple_lt2 l b n n2 i j i' j' t u t' u')
    ⟨hl, hb, show Value.bool _ ≠ Value.notImplemented ∧ Q (.bool _) s from ⟨(fun x => nomatch x), h⟩⟩ hu
end
end Mine

namespace Mine
open MeetsSeq MeetsSeq2 MeetsSeq3 SeqRoads2 SeqAt
open AutoSeq1 (wpAny_loadPart')

/-- a pair of ints, made as a tuple -/
def RawP (h : Heap) (v : Value) (p : Int × Int) : Prop := ∃ a n t u, v = .ref a ∧ IsT h a #[.int p.1 t, .int p.2 u] n
theorem RawP.keep {h h' : Heap} {v p} (x : RawP h v p) (k : ∀ b o, h.get? b = some o → h'.get? b = some o) : RawP h' v p :=
  let ⟨a, n, t, u, e, q⟩ := x; ⟨a, n, t, u, e, k _ _ q⟩

section
variable {prog : Program} {w : World} {A : Around} {E : Value → Shared → Prop} {s : Shared}

theorem rawP_lt {v v' : Value} {p p' : Int × Int} {Q : Value → Shared → Prop} (x : RawP s.heap v p) (y : RawP s.heap v' p') (hu : A.units < cLine) (h : Q (.bool (decide (plt p p'))) s) :
    wpAny (model prog w) A (richCompare .Lt v v') Q E s := by
  obtain ⟨a, n, t, u, rfl, q⟩ := x
  obtain ⟨a', n', t', u', rfl, q'⟩ := y
  exact lt_tup2 q q' hu h
theorem range2_all (e : Nat → Bool) : (List.range 2).all e = (e 0 && e 1) := by
  show (e 0 && (e 1 && true)) = _
  simp
theorem pair_beq (p p' : Int × Int) : (p == p') = (p.1 == p'.1 && p.2 == p'.2) := rfl
theorem rawP_items {A : Around} {s : Shared} {i j i' j' : Int} {t u t' u' : Tok} : ∀ k (h1 : k < (#[Value.int i t, Value.int j u] : Array Value).size) (h2 : k < (#[Value.int i' t', Value.int j' u'] : Array Value).size),
    EqAt A s (#[Value.int i t, Value.int j u] : Array Value)[k] (#[Value.int i' t', Value.int j' u'] : Array Value)[k] ((fun k => if k = 0 then i == i' else j == j') k)
  | 0, _, _ => EqAt.int_int _ _ _ _
  | 1, _, _ => EqAt.int_int _ _ _ _
  | k + 2, h1, _ => absurd h1 (by show ¬ k + 2 < 2; omega)
theorem rawP_eqAt {v v' : Value} {p p' : Int × Int} (x : RawP s.heap v p) (y : RawP s.heap v' p') (hu : A.units < cLine) : EqAt A s v v' (p == p') := by
  obtain ⟨a, n, t, u, rfl, q⟩ := x
  obtain ⟨a', n', t', u', rfl, q'⟩ := y
  by_cases e : a = a'
  · subst e
    have q' := q.symm.trans q'
    have : p = p' := by
      injection q' with q'
      injection q' with _ _ q'
      injection q' with q' _
      injection q' with q'
      injection q' with e1 q'
      injection q' with e2 _
      injection e1 with e1 _
      injection e2 with e2 _
      exact Prod.ext e1 e2
    rw [this, beq_self_eq_true]
    exact EqAt.same _
  · refine EqAt.of_refs e ?_
    have := RcAt.tuples (A := A) (s := s) (l := a) (b := a') (e := fun k => if k = 0 then p.1 == p'.1 else p.2 == p'.2) ⟨_, q, rfl, _, rfl⟩ ⟨_, q', rfl, _, rfl⟩ hu rawP_items
    have e2 : ((List.range (min (#[Value.int p.1 t, Value.int p.2 u] : Array Value).size (#[Value.int p'.1 t', Value.int p'.2 u'] : Array Value).size)).all (fun k => if k = 0 then p.1 == p'.1 else p.2 == p'.2) &&
      (#[Value.int p.1 t, Value.int p.2 u] : Array Value).size == (#[Value.int p'.1 t', Value.int p'.2 u'] : Array Value).size) = (p == p') := by
      rw [pair_beq]
      show ((List.range 2).all _ && true) = _
      rw [range2_all, Bool.and_true]; rfl
    rw [e2] at this
    exact this
theorem rawP_ne {v v' : Value} {p p' : Int × Int} {Q : Value → Shared → Prop} (x : RawP s.heap v p) (y : RawP s.heap v' p') (hu : A.units < cLine) (h : Q (.bool (p != p')) s) :
    wpAny (model prog w) A (compareOp .NotEq v v') Q E s := by
  obtain ⟨a, n, t, u, rfl, q⟩ := x
  obtain ⟨a', n', t', u', rfl, q'⟩ := y
  have := RcNeAt.tuples (A := A) (s := s) (l := a) (b := a') (e := fun k => if k = 0 then p.1 == p'.1 else p.2 == p'.2) ⟨_, q, rfl, _, rfl⟩ ⟨_, q', rfl, _, rfl⟩ hu rawP_items
  have e2 : ((List.range (min (#[Value.int p.1 t, Value.int p.2 u] : Array Value).size (#[Value.int p'.1 t', Value.int p'.2 u'] : Array Value).size)).all (fun k => if k = 0 then p.1 == p'.1 else p.2 == p'.2) &&
      (#[Value.int p.1 t, Value.int p.2 u] : Array Value).size == (#[Value.int p'.1 t', Value.int p'.2 u'] : Array Value).size) = (p == p') := by
    rw [pair_beq]
    show ((List.range 2).all _ && true) = _
    rw [range2_all, Bool.and_true]; rfl
  rw [e2] at this
  exact this prog w E Q h

/-- list.remove, item by item -/
theorem remove_go (l : Addr) (items : Array Value) (n : Nat) (x : Value) (j : Nat) (hj : j < items.size) (e : Nat → Bool) (hit : e j = true) (hsz : items.size ≤ sizeLine) :
    ∀ r i : Nat, i + r = j → (∀ k, i ≤ k → k < j → e k = false) → Meets (Builtin.«list.remove.loop» ⟨[.ref l, x, rawInt i], []⟩)
      (fun A R s => IsL s.heap l items n ∧ (∀ k (h : k < items.size), EqAt A.in1 s items[k] x (e k)) ∧ R (.ok (.ret .none)) { s with heap := s.heap.update l (Obj.mapSeq fun xs => xs.eraseIdxIfInBounds j) }) := by
  intro r
  induction r with
  | zero =>
    intro i hi hno prog w A R s h
    obtain ⟨hp, g, d, tk, os⟩ := s; obtain ⟨hl, he, h⟩ := h
    have : i = j := by omega
    subst this
    wp_walk using wpAny_loadPart' hl
    rw [show items[((i : Nat) : Int).toNat]? = some items[i] by simp [hj]]
    refine wpAny_bind (he i hj prog w _ _ ?_)
    rw [hit]
    have hz' : (items.eraseIdxIfInBounds i).size ≤ sizeLine + 1 := Nat.le_trans (size_erased items _) (Nat.le_succ_of_le hsz)
    wp_walk using (wpAny_updateSeq hl rfl (hz := hsz) (_hz' := hz')), wpAny_loadPart' hl
    simpa using h
  | succ r ih =>
    intro i hi hno prog w A R s h
    obtain ⟨hp, g, d, tk, os⟩ := s; obtain ⟨hl, he, h⟩ := h
    have hlt : i < items.size := by omega
    wp_walk using wpAny_loadPart' hl
    rw [show items[((i : Nat) : Int).toNat]? = some items[i] by simp [hlt]]
    refine wpAny_bind (he i hlt prog w _ _ ?_)
    rw [hno i (Nat.le_refl _) (by omega)]
    have hc : ((i : Int) + 1) = ((i + 1 : Nat) : Int) := by push_cast; rfl
    wp_walk
    rw [hc]
    exact ⟨plainId_quiet plain_remove_loop _, codeAny_builtin entry_remove_loop (by
      rw [Around.under_plainId plain_remove_loop _]
      exact ih (i + 1) (by omega) (fun k h1 h2 => hno k (by omega) h2) prog w A R _ ⟨hl, he, h⟩)⟩
theorem remove_at (l : Addr) (items : Array Value) (n : Nat) (x : Value) (j : Nat) (hj : j < items.size) (e : Nat → Bool) (hit : e j = true) (hno : ∀ k, k < j → e k = false) (hsz : items.size ≤ sizeLine) :
    Meets (Builtin.«list.remove» ⟨[.ref l, x], []⟩)
      (fun A R s => IsL s.heap l items n ∧ (∀ k (h : k < items.size), EqAt A.in1 s items[k] x (e k)) ∧ R (.ok (.ret .none)) { s with heap := s.heap.update l (Obj.mapSeq fun xs => xs.eraseIdxIfInBounds j) }) := by
  intro prog w A R s h
  obtain ⟨hp, g, d, tk, os⟩ := s
  wp_walk using wpAny_loadPart' h.1
  exact ⟨plainId_quiet plain_remove_loop _, codeAny_builtin entry_remove_loop (by
    rw [Around.under_plainId plain_remove_loop _]
    exact remove_go l items n x j hj e hit hsz j 0 (by omega) (fun k _ h2 => hno k h2) prog w A R _ h)⟩

/-- the least of a list of pairs -/
theorem min_go {R : Result → Shared → Prop} {h₀ : Heap} {I S l : Addr} {vs : Array Value} {n : Nat} {key : Value → Int × Int} (hh : A.handled = none) (hu : A.units + 1 < cLine) (hI : h₀.get? I = none) (hS : h₀.get? S = none) (hSI : S ≠ I)
    (hl : IsL h₀ l vs n) (hv : ∀ v, v ∈ vs → RawP h₀ v (key v))
    (hR : ∀ v h' tk', v ∈ vs → (∀ v' ∈ vs, ¬ plt (key v') (key v)) → (∀ b o, h₀.get? b = some o → h'.get? b = some o) → R (.ok (.ret v)) { s with heap := h', toks := tk' }) :
    ∀ (r j : Nat) (h : Heap) (tk : Nat) (vb : Value) (c : Nat), j + r = vs.size → (∀ b o, h₀.get? b = some o → h.get? b = some o) → h.IsListIter I l j → IsL h S #[vb, vb] c → vb ∈ vs → (∀ k (hk : k < vs.size), k < j → ¬ plt (key vs[k]) (key vb)) →
      codeAny (model prog w) A (.builtin "min.loop" ⟨[.ref I, .none, .ref S], []⟩) R { s with heap := h, toks := tk } := by
  have hname : (toString "min" ++ toString ".loop" : String) = "min.loop" := by decide
  intro r
  induction r with
  | zero =>
    intro j h tk vb c hj K hit hs hvb hb
    refine codeAny_builtin PySem.F.entry_min_loop ?_
    rw [Around.under_plainId PySem.F.plain_min_loop _]
    show wpAny _ A.in1 (seqItems? (.ref S) >>= _) _ _ _
    refine wpAny_bind (wpAny_seqItems hs rfl ?_)
    show wpAny _ A.in1 (tryCatch (pyNext (.ref I)) _ >>= _) _ _ _
    refine wpAny_bind (wpAny_tryCatch (wpAny_pyNext_list_end hh hit (IsL.isList (K _ _ hl)) (by simp; omega) fun h' he => ?_))
    have hS' := he S _ hSI hs
    show wpAny _ A.in1 (updateSeq S (fun _ => #[]) >>= _) _ _ _
    refine wpAny_bind ?_
    refine wpAny_updateSeq hS' rfl (wpAny_bind (wpAny_letGo (wpAny_pure ?_)))
    refine hR vb _ tk hvb (fun v' hv' => ?_) fun b o e => ?_
    · obtain ⟨k, hk, rfl⟩ := Array.mem_iff_getElem.mp hv'
      exact hb k hk (by omega)
    · have hbI : b ≠ I := fun q => by rw [q, hI] at e; cases e
      have hbS : b ≠ S := fun q => by rw [q, hS] at e; cases e
      exact (Heap.get?_update_other _ _ (Ne.symm hbS)).trans (he b o hbI (K b o e))
  | succ r ih =>
    intro j h tk vb c hj K hit hs hvb hb
    have hlt : j < vs.size := by omega
    refine codeAny_builtin PySem.F.entry_min_loop ?_
    rw [Around.under_plainId PySem.F.plain_min_loop _]
    show wpAny _ A.in1 (seqItems? (.ref S) >>= _) _ _ _
    refine wpAny_bind (wpAny_seqItems hs rfl ?_)
    show wpAny _ A.in1 (tryCatch (pyNext (.ref I)) _ >>= _) _ _ _
    refine wpAny_bind (wpAny_tryCatch (wpAny_pyNext_list_item hit (IsL.isList (K _ _ hl)) (x := vs[j]) (by simp [hlt]) fun h' hit' hs' => ?_))
    have K' : ∀ b o, h₀.get? b = some o → h'.get? b = some o := fun b o e => (hs'.2 b fun q => by rw [q, hI] at e; cases e).trans (K b o e)
    have hS' : IsL h' S #[vb, vb] c := (hs'.2 S hSI).trans hs
    show wpAny _ A.in1 (tryCatch (holding [vs[j], vs[j]] (richCompare .Lt vs[j] vb >>= _)) _ >>= _) _ _ _
    refine wpAny_bind (wpAny_tryCatch (wpAny_holding (wpAny_bind (rawP_lt ((hv _ (Array.getElem_mem hlt)).keep K') ((hv _ hvb).keep K') hu ?_))))
    refine wpAny_bind (wpAny_holding (wpAny_truthy_bool ?_))
    refine wpAny_bind (wpAny_letGo (wpAny_pure ?_))
    have K2 : ∀ f, ∀ b o, h₀.get? b = some o → (h'.update S f).get? b = some o := fun f b o e => (Heap.get?_update_other _ _ (fun q => by rw [← q, hS] at e; cases e)).trans (K' b o e)
    by_cases hp : plt (key vs[j]) (key vb)
    · rw [decide_eq_true hp]
      simp only [if_true]
      refine wpAny_bind ?_
      refine wpAny_updateSeq hS' rfl (wpAny_bind (wpAny_letGo ?_))
      rw [hname]
      obtain ⟨oi, hoi, hoc⟩ := hit'
      refine wpAny_pure ⟨plainId_quiet PySem.F.plain_min_loop _, ih (j + 1) _ _ vs[j] _ (by omega) (K2 _) ⟨oi, (Heap.get?_update_other _ _ hSI).trans hoi, hoc⟩ (IsL.update hS' _) (Array.getElem_mem hlt) fun k hk hkj => ?_⟩
      by_cases e : k = j
      · subst e; unfold plt; omega
      · have := hb k hk (by omega)
        unfold plt at this hp ⊢; omega
    · rw [decide_eq_false hp]
      simp only [Bool.false_eq_true, if_false]
      refine wpAny_bind (wpAny_letGo ?_)
      rw [hname]
      refine wpAny_pure ⟨plainId_quiet PySem.F.plain_min_loop _, ih (j + 1) _ _ vb c (by omega) K' hit' hS' hvb fun k hk hkj => ?_⟩
      by_cases e : k = j
      · subst e; exact hp
      · exact hb k hk (by omega)

theorem min_pairs {l : Addr} {vs : Array Value} {n : Nat} {key : Value → Int × Int} {Q : Value → Shared → Prop} (hh : A.handled = none) (hu : A.units + 1 < cLine)
    (hl : IsL s.heap l vs n) (hne : 0 < vs.size) (hv : ∀ v, v ∈ vs → RawP s.heap v (key v))
    (hQ : ∀ v h' tk', v ∈ vs → (∀ v' ∈ vs, ¬ plt (key v') (key v)) → (∀ b o, s.heap.get? b = some o → h'.get? b = some o) → Q v { s with heap := h', toks := tk' }) :
    wpAny (model prog w) A (call (.builtin "min") [.ref l]) Q E s := by
  have hname : (toString "min" ++ toString ".loop" : String) = "min.loop" := by decide
  refine call_function_tree PySem.F.kind_min PySem.F.plain_min PySem.F.entry_min (PySem.F.args_min1 _) ?_
  show wpAny _ A.in1 (Builtin.Builtins.bindParams "min" ["key", "default"] 0 ⟨[], []⟩ >>= _) _ _ s
  refine wpAny_bind (wpAny_of_eq (show Builtin.Builtins.bindParams "min" ["key", "default"] 0 ⟨[], []⟩ = pure [none, none] from rfl) ?_)
  refine wpAny_bind (wpAny_pure ?_)
  refine wpAny_bind (wpAny_pyIter_list (IsL.isList hl) ?_)
  refine wpAny_bind (wpAny_newList ?_ (Nat.zero_le _))
  rw [hname]
  have nI : s.heap.get? s.heap.objs.size = none := Heap.get?_none_of_le (Nat.le_refl _)
  have nS : s.heap.get? (s.heap.objs.size + 1) = none := Heap.get?_none_of_le (Nat.le_succ _)
  refine wpAny_pure ⟨plainId_quiet PySem.F.plain_min_loop _, ?_⟩
  refine codeAny_builtin PySem.F.entry_min_loop ?_
  rw [Around.under_plainId PySem.F.plain_min_loop _]
  generalize hH : (s.heap.push { cls := .type "list_iterator", data := .fields #[.ref l, .int 0 0] }) = H
  have hHs : H.objs.size = s.heap.objs.size + 1 := by rw [← hH, Heap.size_push]
  have hit : (H.push { cls := .type "list", data := .seq ([] : List Value).toArray }).IsListIter s.heap.objs.size l 0 :=
    ⟨_, Heap.get?_push_of_some _ (hH ▸ Heap.get?_push_size _ rfl), rfl, rfl⟩
  have hS : IsL (H.push { cls := .type "list", data := .seq ([] : List Value).toArray }) H.objs.size #[] 0 := Heap.get?_push_size _ rfl
  have K : ∀ b o, s.heap.get? b = some o → (H.push { cls := .type "list", data := .seq ([] : List Value).toArray }).get? b = some o := fun b o e => Heap.get?_push_of_some _ (hH ▸ Heap.get?_push_of_some _ e)
  have hSI : H.objs.size ≠ s.heap.objs.size := by rw [hHs]; exact Nat.succ_ne_self _
  show wpAny _ A.in1 (seqItems? (.ref H.objs.size) >>= _) _ _ _
  refine wpAny_bind (wpAny_seqItems hS rfl ?_)
  show wpAny _ A.in1 (tryCatch (pyNext (.ref s.heap.objs.size)) _ >>= _) _ _ _
  refine wpAny_bind (wpAny_tryCatch (wpAny_pyNext_list_item hit (IsL.isList (K _ _ hl)) (x := vs[0]) (by simp [hne]) fun h' hit' hs' => ?_))
  have K' : ∀ b o, s.heap.get? b = some o → h'.get? b = some o := fun b o e => (hs'.2 b fun q => by rw [q, nI] at e; cases e).trans (K b o e)
  have hS' : IsL h' H.objs.size #[] 0 := (hs'.2 _ hSI).trans hS
  show wpAny _ A.in1 (updateSeq H.objs.size (fun _ => #[vs[0], vs[0]]) >>= _) _ _ _
  refine wpAny_bind ?_
  refine wpAny_updateSeq hS' rfl ?_
  rw [hname]
  obtain ⟨oi, hoi, hoc⟩ := hit'
  refine wpAny_pure ⟨plainId_quiet PySem.F.plain_min_loop _, min_go hh hu nI (S := H.objs.size) (by rw [hHs]; exact nS) hSI hl hv (fun v h'' tk' a b c => hQ v h'' tk' a b c) (vs.size - 1) 1 _ s.toks vs[0] _ (by omega)
    (fun b o e => (Heap.get?_update_other _ _ (fun q => by rw [← q, hHs, nS] at e; cases e)).trans (K' b o e)) ⟨oi, (Heap.get?_update_other _ _ hSI).trans hoi, hoc⟩ (IsL.update hS' _) (Array.getElem_mem hne) fun k hk h1 => ?_⟩
  have : k = 0 := by omega
  subst this
  unfold plt; omega
end
end Mine

namespace Mine
open SeqAt

def pv (p : Int × Int) : List Value := [.int p.1 0, .int p.2 0]
/-- 0 .. n - 1 -/
def nats (ns : List Nat) : List Value := ns.map fun (i : Nat) => .int (i : Int) 0
def IsP (φ : Phi) (v : Value) (p : Int × Int) : Prop := ∃ a, v = .ref a ∧ φ a = some (.tup (pv p))
theorem IsP.le {φ ψ : Phi} {v p} (x : IsP φ v p) (k : Le φ ψ) : IsP ψ v p := let ⟨a, e, q⟩ := x; ⟨a, e, k _ _ q⟩
theorem Room.units {d : Nat} {A : Around} (h : Room d A) : A.units + 200 < cLine := by
  have h2 : A.units + 10 * d ≤ 9000 := h.2.2
  have e : cLine = 9900 := rfl
  rw [e]; omega
theorem Room.u0 {d : Nat} {A : Around} (h : Room d A) : A.units < cLine := Nat.lt_of_le_of_lt (Nat.le_add_right _ 200) h.units
theorem Room.u1 {d : Nat} {A : Around} (h : Room d A) : A.units + 1 < cLine := Nat.lt_of_le_of_lt (Nat.add_le_add_left (by decide) _) h.units

theorem arr2 {items : Array Value} {p : Int × Int} (h : items.toList.map er = pv p) : ∃ t u, items = #[.int p.1 t, .int p.2 u] := by
  obtain ⟨l⟩ := items
  obtain ⟨a, b, e, h1, h2⟩ := ex2 (vs := l) h
  obtain ⟨t, rfl⟩ := er_int h1
  obtain ⟨u, rfl⟩ := er_int h2
  exact ⟨t, u, by rw [e]⟩
section
variable {C : Cx} {d : Nat} {L : Addr} {m : Frm} {φ ρ : Phi} {s : Shared}
theorem FS.rawP (F : FS C L m φ ρ s) {v p} (x : IsP φ v p) : RawP s.heap v p := by
  obtain ⟨a, rfl, q⟩ := x
  obtain ⟨items, n, q', e, _⟩ := F.tup q
  obtain ⟨t, u, rfl⟩ := arr2 e
  exact ⟨a, n, t, u, rfl, q'⟩
end
theorem map_eraseIdx {α β : Type} (f : α → β) : ∀ (l : List α) (i : Nat), (l.eraseIdx i).map f = (l.map f).eraseIdx i
  | [], _ => rfl
  | _ :: _, 0 => rfl
  | x :: l, i + 1 => by rw [List.eraseIdx_cons_succ, List.map_cons, List.map_cons, List.eraseIdx_cons_succ, map_eraseIdx f l i]
theorem perm_eraseIdx {α : Type} : ∀ (l : List α) (i : Nat) (h : i < l.length), l.Perm (l[i] :: l.eraseIdx i)
  | x :: l, 0, _ => .refl _
  | x :: l, i + 1, h => by
    have := perm_eraseIdx l i (by simpa using h)
    rw [List.eraseIdx_cons_succ, List.getElem_cons_succ]
    exact (this.cons x).trans (.swap _ _ _)
/-- a list of refs bears no tokens -/
theorem refs_er {vs xs : List Value} (h : vs.map er = xs) (k : ∀ v ∈ xs, ∃ a, v = .ref a) : vs = xs := by
  subst h
  induction vs with
  | nil => rfl
  | cons v r ih =>
    obtain ⟨a, e⟩ := k (er v) (.head _)
    rw [List.map_cons, ← ih (fun w hw => k w (.tail _ hw)), e, er_ref e]

section
variable {C : Cx} {d : Nat} {env : Env} {m : Frm} {φ : Phi} {Q : Value → Frm → Phi → Prop} {L : Addr}

theorem Op_lt_pair {v w : Value} {p q : Int × Int} (hv : IsP φ v p) (hw : IsP φ w q) (h : Q (.bool (decide (plt p q))) m φ) : Op2 C d L (compareOp .Lt) v w Q m φ := fun a b e e' => by
  obtain ⟨x, rfl, _⟩ := id hv
  obtain ⟨y, rfl, _⟩ := id hw
  rw [er_ref e, er_ref e']
  exact .raw fun ρ A s ro F => show wpAny _ _ (richCompare .Lt _ _) _ _ _ from rawP_lt (F.rawP hv) (F.rawP hw) ro.u0 ⟨m, φ, F, h⟩
theorem Op_ne_pair {v w : Value} {p q : Int × Int} (hv : IsP φ v p) (hw : IsP φ w q) (h : Q (.bool (p != q)) m φ) : Op2 C d L (compareOp .NotEq) v w Q m φ := fun a b e e' => by
  obtain ⟨x, rfl, _⟩ := id hv
  obtain ⟨y, rfl, _⟩ := id hw
  rw [er_ref e, er_ref e']
  exact .raw fun ρ A s ro F => rawP_ne (F.rawP hv) (F.rawP hw) ro.u0 ⟨m, φ, F, h⟩
theorem Op_ne_nil {l b : Addr} {xs : List Value} (hl : φ l = some (.lst xs)) (hb : φ b = some (.lst [])) (h : Q (.bool (!xs.isEmpty)) m φ) : Op2 C d L (compareOp .NotEq) (.ref l) (.ref b) Q m φ := fun x y e e' => by
  rw [er_ref e, er_ref e']
  refine .raw fun ρ A s ro F => ?_
  obtain ⟨items, n, q, r, sz, sz'⟩ := F.lst hl
  obtain ⟨items2, n2, q2, r2, _, sz2⟩ := F.lst hb
  have e2 : items2.size = 0 := by rw [sz2]; rfl
  have e3 : xs.isEmpty = (items.size == 0) := by rw [sz']; cases xs <;> rfl
  rw [e3] at h
  by_cases e4 : items.size = 0
  · have := RcNeAt.lists (A := A) (s := s) (e := fun _ => true) (IsL.isList q) (IsL.isList q2) (e4.trans e2.symm) ro.u0 (fun j h1 _ => absurd h1 (by omega))
    rw [e4] at this h
    exact this C.prog C.w _ _ ⟨m, φ, F, h⟩
  · have := RcNeAt.lists_lengths (A := A) (s := s) (IsL.isList q) (IsL.isList q2) (by rw [e2]; simpa using e4) ro.u0
    rw [show (items.size == 0) = false from beq_eq_false_iff_ne.mpr e4] at h
    exact this C.prog C.w _ _ ⟨m, φ, F, h⟩
theorem CallV_min {l : Addr} {xs : List Value} {key : Value → Int × Int} (hl : φ l = some (.lst xs)) (hne : xs ≠ []) (hk : ∀ v ∈ xs, IsP φ v (key v))
    (h : ∀ v ∈ xs, (∀ v' ∈ xs, ¬ plt (key v') (key v)) → Q v m φ) : CallV C d L (.builtin "min") [.ref l] Q m φ := fun vs e => by
  obtain ⟨v, rfl, e'⟩ := ex1 e
  rw [er_ref e']
  refine .raw fun ρ A s ro F => ?_
  obtain ⟨items, n, q, r, sz, sz'⟩ := F.lst hl
  have r := refs_er r (fun v hv => let ⟨a, e, _⟩ := hk v hv; ⟨a, e⟩)
  have mem : ∀ v, v ∈ items ↔ v ∈ xs := fun v => by rw [← r]; exact Array.mem_toList_iff.symm
  have h0 : 0 < items.size := by rw [sz']; exact List.length_pos_iff.mpr hne
  refine min_pairs (key := key) ro.1 ro.u1 q h0 (fun v hv => F.rawP (hk v ((mem v).mp hv))) fun v h' tk' hv hmin K => ⟨m, φ, F.keep K, ?_⟩
  obtain ⟨a, e, _⟩ := hk v ((mem v).mp hv)
  have := h v ((mem v).mp hv) fun v' hv' => hmin v' ((mem v').mpr hv')
  rw [e] at this ⊢
  exact this
theorem CallV_sum {l : Addr} {xs : List Value} (hl : φ l = some (.lst xs)) (hi : ∀ v ∈ xs, ∃ i, v = .int i 0) (h : ∀ i, Q (.int i 0) m φ) : CallV C d L (.builtin "sum") [.ref l] Q m φ := fun vs e => by
  obtain ⟨v, rfl, e'⟩ := ex1 e
  rw [er_ref e']
  refine .raw fun ρ A s ro F => ?_
  obtain ⟨items, n, q, r, sz, sz'⟩ := F.lst hl
  have : AllInts items := fun v hv => by
    obtain ⟨i, e⟩ := hi (er v) (by rw [← r]; exact List.mem_map_of_mem (Array.mem_toList_iff.mpr hv))
    obtain ⟨t, e⟩ := er_int e
    exact ⟨i, t, e⟩
  obtain ⟨ys, rfl⟩ := this.items
  exact sum_intListG ro.1 (IsL.isList q) fun h' tk t' K => ⟨m, φ, F.keep K, h _⟩
theorem CallV_abs {i : Int} (h : Q (.int (if i < 0 then -i else i) 0) m φ) : CallV C d L (.builtin "abs") [.int i 0] Q m φ := fun vs e => by
  obtain ⟨v, rfl, e'⟩ := ex1 e
  obtain ⟨t, rfl⟩ := er_int e'
  exact .raw fun ρ A s ro F => call_abs_int fun u tk => ⟨m, φ, F.tok, h⟩
theorem CallV_min2 {i j : Int} (h : Q (.int (if j < i then j else i) 0) m φ) : CallV C d L (.builtin "min") [.int i 0, .int j 0] Q m φ := fun vs e => by
  obtain ⟨v, w, rfl, e1, e2⟩ := ex2 e
  obtain ⟨t, rfl⟩ := er_int e1
  obtain ⟨u, rfl⟩ := er_int e2
  refine .raw fun ρ A s ro F => min_two_ints ro.1 fun h' tk K => ⟨m, φ, F.keep K, ?_⟩
  by_cases hj : j < i
  · rw [if_pos hj] at h ⊢; exact h
  · rw [if_neg hj] at h ⊢; exact h
theorem CallV_range {n : Int} (h : ∀ a, φ a = none → Q (.ref a) m (upd φ a (.rng 0 n 1))) : CallV C d L (.type "range") [.int n 0] Q m φ := fun vs e => by
  obtain ⟨v, rfl, e'⟩ := ex1 e
  obtain ⟨t, rfl⟩ := er_int e'
  refine .raw fun ρ A s ro F => call_range_1 ?_
  obtain ⟨n0, _, F'⟩ := F.push (x := .rng 0 n 1) (o := { cls := .type "range", data := .fields #[.int 0 s.toks, .int n t, .int 1 (s.toks + 1)] }) (tk := s.toks + 1 + 1) ⟨_, _, _, IsRange.new ..⟩
  exact ⟨m, _, F', h _ n0⟩
theorem CallV_listSeq {l : Addr} {xs : List Value} (hl : φ l = some (.lst xs)) (h : ∀ a, φ a = none → Q (.ref a) m (upd φ a (.lst xs))) : CallV C d L (.type "list") [.ref l] Q m φ := fun vs e => by
  obtain ⟨v, rfl, e'⟩ := ex1 e
  rw [er_ref e']
  refine .raw fun ρ A s ro F => ?_
  obtain ⟨items, n, q, r, sz, sz'⟩ := F.lst hl
  refine call_list_seq l (T := "list") (.inl rfl) q rfl rfl (fun h' c' K hS => ?_) sz
  obtain ⟨n0, _, F'⟩ := F.alloc (x := .lst xs) (tk := s.toks) K (Heap.get?_none_of_le (Nat.le_refl _)) ⟨items, c', hS, r, sz' ▸ sz⟩
  exact ⟨m, _, F', h _ n0⟩
theorem CallV_listRange {r : Addr} {n : Nat} (hr : φ r = some (.rng 0 n 1)) (hn : n ≤ 1000) (h : ∀ a, φ a = none → Q (.ref a) m (upd φ a (.lst (nats (List.range n))))) : CallV C d L (.type "list") [.ref r] Q m φ := fun vs e => by
  obtain ⟨v, rfl, e'⟩ := ex1 e
  rw [er_ref e']
  refine .raw fun ρ A s ro F => ?_
  obtain ⟨t, u, w, hr'⟩ := F.sat hr
  have hsz : Builtin.Range.rangeSize 0 n 1 = (n : Int) := by rw [rangeSize_one]; split <;> omega
  refine call_list_range ro.1 hr' (small_one (by decide) (by decide) (by omega) (by omega)) hsz (by omega) fun h' tk acc' c' K hS hacc => ?_
  have hx : acc'.toList.map er = nats (List.range n) := by
    obtain ⟨h1, h2⟩ := hacc
    unfold nats
    refine List.ext_getElem (by simp [h1]) fun i h3 h4 => ?_
    have h5 : i < acc'.size := by simpa using h3
    obtain ⟨t', e⟩ := h2 i acc'[i] (by simp [h5])
    rw [List.getElem_map, List.getElem_map, List.getElem_range]
    show er acc'[i] = _
    rw [e]; simp
  obtain ⟨n0, _, F'⟩ := F.alloc (x := .lst (nats (List.range n))) (tk := tk) K (Heap.get?_none_of_le (Nat.le_refl _)) ⟨acc', c', hS, hx, by unfold nats; rw [List.length_map, List.length_range, sizeLine_eq]; omega⟩
  exact ⟨m, _, F', h _ n0⟩
theorem Op_list_add {l b : Addr} {xs ys : List Value} (hl : φ l = some (.lst xs)) (hb : φ b = some (.lst ys)) (hs : xs.length + ys.length ≤ 10000) (h : ∀ a, φ a = none → Q (.ref a) m (upd φ a (.lst (xs ++ ys)))) :
    Op2 C d L (binaryOp .Add) (.ref l) (.ref b) Q m φ := fun x y e e' => by
  rw [er_ref e, er_ref e']
  refine .raw fun ρ A s ro F => ?_
  obtain ⟨items, n, q, r, sz, sz'⟩ := F.lst hl
  obtain ⟨items2, n2, q2, r2, _, sz2⟩ := F.lst hb
  have hz : (items ++ items2).size ≤ sizeLine := by rw [Array.size_append, sz', sz2, sizeLine_eq]; omega
  refine P.add_list q q2 ?_ (by rw [← Array.size_append]; exact hz)
  obtain ⟨n0, _, F'⟩ := F.push (x := .lst (xs ++ ys)) (o := { cls := .type "list", data := .seq (items ++ items2) }) (tk := s.toks) ⟨_, 0, Heap.get?_push_size _ rfl, by rw [Array.toList_append, List.map_append, r, r2], by rw [List.length_append, sizeLine_eq]; omega⟩
  exact ⟨m, _, F', h _ n0⟩

-- methods
theorem E_append {o : Expr} {apos pos} {x : Expr} (h : E C d env o (fun a m' φ' => ∃ l, a = .ref l ∧ (∃ xs, φ' l = some (.lst xs)) ∧ E C d env x (fun v m2 φ2 => ∃ xs, φ2 l = some (.lst xs) ∧ xs.length ≤ 10000 ∧ Q .none m2 (upd φ2 l (.lst (xs ++ [v])))) m' φ') m φ)
    (hbase : attributeBase o "append" env (eval o env) = eval o env := by rfl) (hline : (apos.endLine == pos.line) = true := by rfl)
    (hs : backTo pos (starEach [x] env) = [(false, eval x env)] := by rfl) : E C d env (.Call (.Attribute o "append" apos) [x] [] pos) Q m φ := .raw fun ρ A s ro F => by
  refine wpAny_Call_method hbase (by rw [hs]; rfl) hline PySem.F.plainAttrs_list PySem.F.slot_list_append PySem.F.type_list_append (h.then ro F fun ov m' φ' s' F' q => ?_)
  obtain ⟨l, e, ⟨xs, hl⟩, q⟩ := q
  rw [er_ref e]
  obtain ⟨items, n, hi, r, sz, sz'⟩ := F'.lst hl
  refine ⟨(IsL.isList hi).typeIs, fun a ea => ⟨_, by cases ea; exact hi, rfl⟩, ?_⟩
  rw [hs]
  refine P.append_list (q.then ro F' fun v m2 φ2 s2 F2 q2 => ?_)
  obtain ⟨xs2, hl2, hn, q2⟩ := q2
  obtain ⟨items2, n2, hi2, r2, sz2, sz2'⟩ := F2.lst hl2
  exact ⟨items2, n2, sz2, hi2, m2, _, F2.updL (tk := s2.toks) hl2 hi2 (f := (·.push v)) (by rw [Array.toList_push, List.map_append, r2]; rfl) (by rw [List.length_append, sizeLine_eq]; simp; omega), q2⟩
theorem E_pop {o : Expr} {apos pos} (h : E C d env o (fun a m' φ' => ∃ l xs v, a = .ref l ∧ φ' l = some (.lst (xs ++ [v])) ∧ Q v m' (upd φ' l (.lst xs))) m φ)
    (hbase : attributeBase o "pop" env (eval o env) = eval o env := by rfl) (hline : (apos.endLine == pos.line) = true := by rfl) : E C d env (.Call (.Attribute o "pop" apos) [] [] pos) Q m φ := .raw fun ρ A s ro F => by
  refine wpAny_Call_method hbase rfl hline PySem.F.plainAttrs_list PySem.F.slot_list_pop PySem.F.type_list_pop (h.then ro F fun ov m' φ' s' F' q => ?_)
  obtain ⟨l, xs, v, e, hl, q⟩ := q
  rw [er_ref e]
  obtain ⟨items, n, hi, r, sz, sz'⟩ := F'.lst hl
  refine ⟨(IsL.isList hi).typeIs, fun a ea => ⟨_, by cases ea; exact hi, rfl⟩, ?_⟩
  rw [List.length_append, List.length_singleton] at sz'
  obtain ⟨u, hu, eu⟩ := arr_er_get (i := items.size - 1) (v := v) r (by rw [sz']; simp)
  refine P.pop_list hi hu ⟨m', _, F'.updL (tk := s'.toks) (ys := xs) hl hi ?_ (by rw [sizeLine_eq] at sz ⊢; omega), by rw [eu]; exact q⟩ sz
  have : items.size - 1 < items.size := by omega
  rw [Array.eraseIdxIfInBounds, dif_pos this, Array.toList_eraseIdx, map_eraseIdx, r, sz']
  rw [Nat.add_sub_cancel, List.eraseIdx_append_of_length_le (Nat.le_refl _)]
  simp
theorem E_remove {o : Expr} {apos pos} {x : Expr} {key : Value → Int × Int} (h : E C d env o (fun a m' φ' => ∃ l xs, a = .ref l ∧ φ' l = some (.lst xs) ∧ E C d env x (fun v m2 φ2 => φ2 l = some (.lst xs) ∧ (∀ v ∈ xs, IsP φ2 v (key v)) ∧ v ∈ xs ∧
      ∀ y ys, y ∈ xs → key y = key v → xs.Perm (y :: ys) → Q .none m2 (upd φ2 l (.lst ys))) m' φ') m φ)
    (hbase : attributeBase o "remove" env (eval o env) = eval o env := by rfl) (hline : (apos.endLine == pos.line) = true := by rfl)
    (hs : backTo pos (starEach [x] env) = [(false, eval x env)] := by rfl) : E C d env (.Call (.Attribute o "remove" apos) [x] [] pos) Q m φ := .raw fun ρ A s ro F => by
  refine wpAny_Call_method hbase (by rw [hs]; rfl) hline PySem.F.plainAttrs_list PySem.F.slot_list_remove PySem.F.type_list_remove (h.then ro F fun ov m' φ' s' F' q => ?_)
  obtain ⟨l, xs, e, hl, q⟩ := q
  rw [er_ref e]
  obtain ⟨items, n, hi, r, sz, sz'⟩ := F'.lst hl
  refine ⟨(IsL.isList hi).typeIs, fun a ea => ⟨_, by cases ea; exact hi, rfl⟩, ?_⟩
  rw [hs]
  refine seqMethod1_meets PySem.F.slot_list_remove PySem.F.entry_list_remove (q.then ro F' fun v m2 φ2 s2 F2 q2 => ?_)
  obtain ⟨hl2, hk, hv, q2⟩ := q2
  obtain ⟨items2, n2, hi2, r2, sz2, sz2'⟩ := F2.lst hl2
  have r3 := refs_er r2 (fun v hv => let ⟨a, e, _⟩ := hk v hv; ⟨a, e⟩)
  have ev : er v = v := by
    obtain ⟨a, e, _⟩ := hk _ hv
    rw [e, er_ref e]
  rw [ev] at hv q2
  let j := xs.findIdx fun y => key y == key v
  have hj : j < xs.length := List.findIdx_lt_length_of_exists ⟨v, hv, beq_self_eq_true _⟩
  have hj2 : j < items2.size := by omega
  have gx : ∀ k (h : k < items2.size), items2[k] = xs[k]'(by omega) := fun k h => by
    have : items2.toList[k]'(by simpa using h) = xs[k]'(by omega) := by simp only [r3]
    simpa using this
  have hjv : key (xs[j]'hj) = key v := by
    have := List.findIdx_getElem (xs := xs) (p := fun y => key y == key v) (w := hj)
    exact beq_iff_eq.mp this
  refine ⟨(IsL.isList hi2).typeIs, PySem.F.args_list_remove_2 _ _, _, remove_at l items2 n2 v j hj2 (fun k => match xs[k]? with | some y => key y == key v | none => false) (by
      simp only [List.getElem?_eq_getElem hj]; exact beq_iff_eq.mpr hjv) (fun k hk' => ?_) sz2, hi2, fun k hk' => ?_, m2, _, F2.updL (tk := s2.toks) (ys := xs.eraseIdx j) hl2 hi2 ?_ ?_, ?_⟩
  · have hkl : k < xs.length := by omega
    simp only [List.getElem?_eq_getElem hkl]
    have := List.not_of_lt_findIdx (p := fun y => key y == key v) (xs := xs) (i := k) hk'
    simpa using this
  · have hkl : k < xs.length := by omega
    have hz := rawP_eqAt (A := A.in1) (F2.rawP (hk _ (List.getElem_mem hkl))) (F2.rawP (hk _ hv)) (show A.units + 1 < cLine from ro.u1)
    rw [gx k hk']
    simp only [List.getElem?_eq_getElem hkl]
    exact hz
  · rw [Array.eraseIdxIfInBounds, dif_pos hj2, Array.toList_eraseIdx, map_eraseIdx, r2]
  · exact Nat.le_trans (List.length_eraseIdx_le ..) (sz2' ▸ sz2)
  · exact q2 _ _ (List.getElem_mem hj) hjv (perm_eraseIdx xs j hj)
theorem E_removeI {o : Expr} {apos pos} {x : Expr} (h : E C d env o (fun a m' φ' => ∃ l ns, a = .ref l ∧ φ' l = some (.lst (nats ns)) ∧ E C d env x (fun v m2 φ2 => φ2 l = some (.lst (nats ns)) ∧ ∃ i ∈ ns, v = .int (i : Int) 0 ∧
      Q .none m2 (upd φ2 l (.lst (nats (ns.erase i))))) m' φ') m φ)
    (hbase : attributeBase o "remove" env (eval o env) = eval o env := by rfl) (hline : (apos.endLine == pos.line) = true := by rfl)
    (hs : backTo pos (starEach [x] env) = [(false, eval x env)] := by rfl) : E C d env (.Call (.Attribute o "remove" apos) [x] [] pos) Q m φ := .raw fun ρ A s ro F => by
  refine wpAny_Call_method hbase (by rw [hs]; rfl) hline PySem.F.plainAttrs_list PySem.F.slot_list_remove PySem.F.type_list_remove (h.then ro F fun ov m' φ' s' F' q => ?_)
  obtain ⟨l, ns, e, hl, q⟩ := q
  rw [er_ref e]
  obtain ⟨items, n, hi, r, sz, sz'⟩ := F'.lst hl
  refine ⟨(IsL.isList hi).typeIs, fun a ea => ⟨_, by cases ea; exact hi, rfl⟩, ?_⟩
  rw [hs]
  refine seqMethod1_meets PySem.F.slot_list_remove PySem.F.entry_list_remove (q.then ro F' fun v m2 φ2 s2 F2 q2 => ?_)
  obtain ⟨hl2, i, hin, ev, q2⟩ := q2
  obtain ⟨t, rfl⟩ := er_int ev
  obtain ⟨items2, n2, hi2, r2, sz2, sz2'⟩ := F2.lst hl2
  have hlen : (nats ns).length = ns.length := List.length_map ..
  have hj : ns.idxOf i < ns.length := List.idxOf_lt_length_of_mem hin
  have hj2 : ns.idxOf i < items2.size := by omega
  refine ⟨(IsL.isList hi2).typeIs, PySem.F.args_list_remove_2 _ _, _, remove_at l items2 n2 _ (ns.idxOf i) hj2 (fun k => match ns[k]? with | some y => y == i | none => false) (by
      simp only [List.getElem?_eq_getElem hj]; exact beq_iff_eq.mpr (List.getElem_idxOf hj)) (fun k hk' => ?_) sz2, hi2, fun k hk' => ?_, m2, _, F2.updL (tk := s2.toks) (ys := nats (ns.erase i)) hl2 hi2 ?_ ?_, q2⟩
  · have hkl : k < ns.length := by omega
    simp only [List.getElem?_eq_getElem hkl]
    have := List.not_of_lt_findIdx (p := (· == i)) (xs := ns) (i := k) hk'
    simpa using this
  · have hkl : k < ns.length := by omega
    have e1 : er items2[k] = .int (ns[k] : Int) 0 := by
      have : (items2.toList.map er)[k]'(by simpa using hk') = (nats ns)[k]'(by omega) := by simp only [r2]
      simpa [nats] using this
    obtain ⟨u, e2⟩ := er_int e1
    rw [e2]
    simp only [List.getElem?_eq_getElem hkl]
    have e3 : (ns[k] == i) = ((ns[k] : Int) == (i : Int)) := by
      by_cases h : ns[k] = i
      · rw [h]; simp
      · rw [beq_eq_false_iff_ne.mpr h, beq_eq_false_iff_ne.mpr (by omega)]
    rw [e3]
    exact EqAt.int_int _ _ _ _
  · rw [Array.eraseIdxIfInBounds, dif_pos hj2, Array.toList_eraseIdx, map_eraseIdx, r2]
    unfold nats
    rw [← map_eraseIdx, List.erase_eq_eraseIdx_of_idxOf rfl]
  · refine Nat.le_trans ?_ sz2
    rw [sz2', hlen]
    unfold nats
    rw [List.length_map]
    exact List.length_erase_le ..
end
end Mine

namespace Mine

section
variable {C : Cx} {d : Nat} {L : Addr} {m : Frm} {φ ρ : Phi} {s : Shared}

theorem FS.left_none (F : FS C L m φ ρ s) {a x} (h : ρ a = some x) : upd φ L (.ns m) a = Option.none := (F.ap a).resolve_right fun q => by rw [q] at h; cases h
theorem join_updR {φ ρ : Phi} {a x} (h : φ a = none) : join φ (upd ρ a x) = upd (join φ ρ) a x := by
  funext b
  by_cases hb : b = a
  · subst hb; unfold join; rw [h, upd_same, upd_same]
  · have e1 : upd ρ a x b = ρ b := if_neg hb
    have e2 : upd (join φ ρ) a x b = join φ ρ b := if_neg hb
    rw [e2]; unfold join; rw [e1]
theorem Apart.updR {φ ρ : Phi} {a x} (h : Apart φ ρ) (e : φ a = none) : Apart φ (Mine.upd ρ a x) := fun b => by
  by_cases q : b = a
  · subst q; exact .inl e
  · exact (h b).imp id fun z => upd_ne q z
theorem FS.setR {a x y} (F : FS C L m φ (upd ρ a x) s) {h' : Heap} {tk : Nat} (k : ∀ b o, b ≠ a → s.heap.get? b = some o → h'.get? b = some o) (hs : Sat h' a y) :
    FS C L m φ (upd ρ a y) { s with heap := h', toks := tk } := by
  have e1 : upd ρ a x a = some x := upd_same ..
  have e2 := F.left_none e1
  have st := F.st.set (tk := tk) k (x := y) (y := x) (a := a) (by rw [join_updR e2, upd_same]) hs
  refine ⟨F.none, ?_, ?_⟩
  · rw [← upd_upd ρ a x]; exact F.ap.updR e2
  · rw [← upd_upd ρ a x, join_updR e2]; exact st
theorem FS.allocR (F : FS C L m φ ρ s) {h' : Heap} {tk : Nat} {a : Addr} {x : AO} (k : ∀ b o, s.heap.get? b = some o → h'.get? b = some o) (ha : s.heap.get? a = Option.none) (hs : Sat h' a x) :
    ρ a = Option.none ∧ FS C L m φ (upd ρ a x) { s with heap := h', toks := tk } := by
  have f := (F.st.fresh ha).1
  have f1 := (join_none f).1
  have f2 := (join_none f).2
  refine ⟨f2, F.none, F.ap.updR f1, ?_⟩
  rw [join_updR f1]; exact F.st.alloc k ha hs
theorem FS.dropR {a x} (F : FS C L m φ (upd ρ a x) s) (hn : ρ a = Option.none) {h' : Heap} {tk : Nat} (k : ∀ b o, b ≠ a → s.heap.get? b = some o → h'.get? b = some o) :
    FS C L m φ ρ { s with heap := h', toks := tk } := by
  have e1 : upd ρ a x a = some x := upd_same ..
  have e2 := F.left_none e1
  have hz : C.s₀.heap.get? a = Option.none := (F.st.sat a x (by rw [join_updR e2, upd_same])).2
  have ne : ∀ b y, join (upd φ L (.ns m)) ρ b = some y → b ≠ a := fun b y e q => by
    subst q; unfold join at e; rw [e2, hn] at e; cases e
  refine ⟨F.none, fun b => (F.ap b).imp id fun q => ?_, ⟨fun b y e => ?_, fun b o e => k b o (fun q => ?_) (F.st.stays b o e), F.st.gens, F.st.os⟩⟩
  · by_cases hb : b = a
    · subst hb; exact hn
    · rwa [show upd ρ a x b = ρ b from if_neg hb] at q
  · have e' : join (upd φ L (.ns m)) (upd ρ a x) b = some y := by rw [join_updR e2]; exact upd_ne (ne b y e) e
    exact ⟨(F.st.sat b y e').1.mono fun o q => k b o (ne b y e) q, (F.st.sat b y e').2⟩
  · subst q; rw [hz] at e; cases e
theorem FS.dropR0 {a x} (F : FS C L m φ (upd ρ a x) s) (hn : ρ a = Option.none) : FS C L m φ ρ s := F.dropR hn (h' := s.heap) (tk := s.toks) fun _ _ _ e => e
theorem FS.satR {a x} (F : FS C L m φ (upd ρ a x) s) : Sat s.heap a x := (F.st.sat a x (by
  have e1 : upd ρ a x a = some x := upd_same ..
  rw [join_updR (F.left_none e1), upd_same])).1
end

/-- what is gone through: a list, or a range -/
inductive It where
  | list (l : Addr)
  | range (a c : Int)
def It.ao (κ : It) (xs : List Value) (k : Nat) : AO := match κ with
  | .list l => .lit l k
  | .range a c => .rit (a + (k : Int) * c) ((xs.length : Int) - (k : Int)) c
def It.ok (κ : It) (xs : List Value) (φ : Phi) : Prop := match κ with
  | .list l => φ l = some (.lst xs)
  | .range a c => xs = (List.range xs.length).map fun (i : Nat) => Value.int (a + (i : Int) * c) 0

section
variable {C : Cx} {d : Nat} {L : Addr} {m : Frm} {φ ρ : Phi} {s : Shared} {A : Around} {E : Value → Shared → Prop}

theorem next_item {κ : It} {xs : List Value} {k : Nat} {it : Addr} {v : Value} {Q : Option Value → Shared → Prop} (F : FS C L m φ (upd ρ it (κ.ao xs k)) s) (hok : κ.ok xs φ) (hx : xs[k]? = some v)
    (h : ∀ u s', er u = v → FS C L m φ (upd ρ it (κ.ao xs (k + 1))) s' → Q (some u) s') : wpAny (model C.prog C.w) A (pyNext (.ref it)) Q E s := by
  cases κ with
  | list l =>
    obtain ⟨items, n, q, r, sz, sz'⟩ := F.lst hok
    obtain ⟨u, hu, eu⟩ := arr_er_get r hx
    exact wpAny_pyNext_list_item F.satR (IsL.isList q) hu fun h' hit hs => h u _ eu (F.setR (tk := s.toks) (y := .lit l (k + 1)) (fun b o hb e => (hs.2 b hb).trans e) hit)
  | range a c =>
    have hk : k < xs.length := (List.getElem?_eq_some_iff.mp hx).1
    have hv : v = .int (a + (k : Int) * c) 0 := by
      have hok : xs = (List.range xs.length).map fun (i : Nat) => Value.int (a + (i : Int) * c) 0 := hok
      rw [hok, List.getElem?_map, List.getElem?_range hk] at hx
      exact (Option.some.inj hx).symm
    refine wpAny_pyNext_range_item F.satR (by omega) fun h' hit hs => h _ _ (by rw [hv]; rfl) (F.setR (tk := s.toks + 1) (y := It.ao (.range a c) xs (k + 1)) (fun b o hb e => (hs.2 b hb).trans e) ?_)
    show IsRangeIter h' it (a + ((k + 1 : Nat) : Int) * c) ((xs.length : Int) - ((k + 1 : Nat) : Int)) c
    have e1 : a + ((k + 1 : Nat) : Int) * c = a + (k : Int) * c + c := by push_cast; rw [Int.add_mul]; omega
    have e2 : (xs.length : Int) - ((k + 1 : Nat) : Int) = (xs.length : Int) - (k : Int) - 1 := by push_cast; omega
    rw [e1, e2]; exact hit
theorem next_end {κ : It} {xs : List Value} {it : Addr} {Q : Option Value → Shared → Prop} (hh : A.handled = none) (F : FS C L m φ (upd ρ it (κ.ao xs xs.length)) s) (hn : ρ it = none) (hok : κ.ok xs φ)
    (h : ∀ s', FS C L m φ ρ s' → Q none s') : wpAny (model C.prog C.w) A (pyNext (.ref it)) Q E s := by
  cases κ with
  | list l =>
    obtain ⟨items, n, q, r, sz, sz'⟩ := F.lst hok
    exact wpAny_pyNext_list_end hh F.satR (IsL.isList q) (by rw [← sz']; simp) fun h' he => h _ (F.dropR (tk := s.toks) hn fun b o hb e => he b o hb e)
  | range a c =>
    exact wpAny_pyNext_range_end hh F.satR (by omega) fun h' he => h _ (F.dropR (tk := s.toks) hn fun b o hb e => he b o hb e)
/-- iter() of what is gone through -/
def It.from (κ : It) (xs : List Value) (v : Value) (φ : Phi) : Prop := match κ with
  | .list l => v = .ref l ∧ φ l = some (.lst xs)
  | .range a c => (∃ r b, v = .ref r ∧ φ r = some (.rng a b c) ∧ Builtin.Range.small a b c = true ∧ Builtin.Range.rangeSize a b c = (xs.length : Int)) ∧ xs = (List.range xs.length).map fun (i : Nat) => Value.int (a + (i : Int) * c) 0
theorem It.from_ok {κ : It} {xs v φ} (h : κ.from xs v φ) : κ.ok xs φ := by
  cases κ with
  | list l => exact h.2
  | range a c => exact h.2
theorem iter_of {κ : It} {xs : List Value} {v u : Value} {Q : Value → Shared → Prop} (F : FS C L m φ ρ s) (hf : κ.from xs v φ) (eu : er u = v)
    (h : ∀ it s', ρ it = none → FS C L m φ (upd ρ it (κ.ao xs 0)) s' → Q (.ref it) s') : wpAny (model C.prog C.w) A (pyIter u) Q E s := by
  have fresh : s.heap.get? s.heap.objs.size = none := Heap.get?_none_of_le (Nat.le_refl _)
  cases κ with
  | list l =>
    obtain ⟨rfl, hl⟩ := hf
    rw [er_ref eu]
    obtain ⟨items, n, q, r, sz, sz'⟩ := F.lst hl
    refine wpAny_pyIter_list (IsL.isList q) ?_
    obtain ⟨n0, F'⟩ := F.allocR (tk := s.toks) (x := .lit l 0) (h' := s.heap.push { cls := .type "list_iterator", data := .fields #[.ref l, .int 0 0] }) (fun _ _ e => Heap.get?_push_of_some _ e) fresh ⟨_, Heap.get?_push_size _ rfl, rfl, rfl⟩
    exact h _ _ n0 F'
  | range a c =>
    obtain ⟨⟨r, b, rfl, hr, hsm, hsz⟩, hx⟩ := hf
    rw [er_ref eu]
    obtain ⟨t, u, w, hr'⟩ := F.sat hr
    refine wpAny_pyIter_range hr' hsm ?_
    obtain ⟨n0, F'⟩ := F.allocR (tk := s.toks) (x := It.ao (.range a c) xs 0) (h' := s.heap.push { cls := .type "range_iterator", data := .fields #[rawInt a, rawInt (Builtin.Range.rangeSize a b c), rawInt c] }) (fun _ _ e => Heap.get?_push_of_some _ e) fresh (by
      show IsRangeIter _ _ _ _ _
      rw [show a + ((0 : Nat) : Int) * c = a by simp, show (xs.length : Int) - ((0 : Nat) : Int) = Builtin.Range.rangeSize a b c by rw [hsz]; simp]
      exact Heap.get?_push_size _ rfl)
    exact h _ _ n0 F'

/-- a target that a loop may bear -/
def TgOk (t : Expr) (κ : It) (xs : List Value) : Prop := (∀ it v, letOwnedTupleGo t it v = pure ()) ∨ ((∃ e k p, t = .Tuple e k p) ∧ (∃ l, κ = .list l) ∧ ∀ v ∈ xs, ∃ a, v = .ref a)
theorem go_of {κ : It} {xs : List Value} {t : Expr} {k : Nat} {it : Addr} {v u : Value} {Q : Unit → Shared → Prop} (F : FS C L m φ (upd ρ it (κ.ao xs k)) s) (ht : TgOk t κ xs) (hv : v ∈ xs) (eu : er u = v)
    (h : Q () s) : wpAny (model C.prog C.w) A (letOwnedTupleGo t (.ref it) u) Q E s := by
  rcases ht with ht | ⟨⟨e, k', p, rfl⟩, ⟨l, rfl⟩, hr⟩
  · rw [ht]; exact wpAny_pure h
  · obtain ⟨a, rfl⟩ := hr v hv
    rw [er_ref eu]
    exact wpAny_letOwnedTupleGo_listiter F.satR h
end

section
variable {C : Cx} {d : Nat} {env : Env}

theorem code_for {target : Expr} {body : List Stmt} {κ : It} {xs : List Value} (I : Nat → Frm → Phi → Prop) {Q : Flow → Frm → Phi → Prop} (ht : TgOk target κ xs)
    (hok : ∀ k m φ, I k m φ → κ.ok xs φ)
    (turn : ∀ k v m φ, xs[k]? = some v → I k m φ → Ag C d env target v (Ss C d env body (loopK (I (k + 1)) Q)) m φ)
    (fin : ∀ m φ, I xs.length m φ → Q .next m φ)
    {ρ : Phi} {A : Around} (ro : Room d A) {it : Addr} (hn : ρ it = none) :
    ∀ (k : Nat) (m : Frm) (φ : Phi) (s : Shared), k ≤ xs.length → I k m φ → FS C env.locals m φ (upd ρ it (κ.ao xs k)) s →
      codeAny (model C.prog C.w) A (.forLoop target (.ref it) body [] env) (fun r s' => ∃ f m' φ', r = .ok f ∧ FS C env.locals m' φ' ρ s' ∧ Q (erF f) m' φ') s := by
  intro k m φ s hk hI F
  refine codeAny_forLoop_any (fun n s => ∃ k m φ, k ≤ xs.length ∧ n = xs.length - k ∧ I k m φ ∧ FS C env.locals m φ (upd ρ it (κ.ao xs k)) s) (fun n s hI => ?_) (xs.length - k) ⟨k, m, φ, hk, rfl, hI, F⟩
  obtain ⟨k, m, φ, hk, rfl, hI, F⟩ := hI
  by_cases he : k = xs.length
  · subst he
    refine next_end ro.1 F hn (hok _ _ _ hI) fun s' F' => wpAny_execs_nil ⟨.next, m, φ, rfl, F', fin m φ hI⟩
  · have hlt : k < xs.length := by omega
    refine next_item F (hok _ _ _ hI) (List.getElem?_eq_getElem hlt) fun u s' eu F' => ?_
    refine go_of F' ht (List.getElem_mem hlt) eu ?_
    refine (turn k _ m φ (List.getElem?_eq_getElem hlt) hI u eu).then ro F' fun _ m2 φ2 s2 F2 q2 => ?_
    refine B.then q2 ro F2 fun f m3 φ3 s3 F3 q3 => ?_
    cases f with
    | next => exact ⟨_, by omega, k + 1, m3, φ3, hlt, rfl, q3, F3⟩
    | cont => exact ⟨_, by omega, k + 1, m3, φ3, hlt, rfl, q3, F3⟩
    | brk => exact ⟨.next, m3, φ3, rfl, F3.dropR0 hn, q3⟩
    | ret v => exact ⟨.ret v, m3, φ3, rfl, F3.dropR0 hn, q3⟩
/-- for target in iter: body -/
theorem S_For {target iter : Expr} {body : List Stmt} {pos} {m : Frm} {φ : Phi} {Q : Flow → Frm → Phi → Prop}
    (h : E C d env iter (fun v m φ => ∃ (κ : It) (xs : List Value) (I : Nat → Frm → Phi → Prop), κ.from xs v φ ∧ TgOk target κ xs ∧ (∀ k m φ, I k m φ → κ.ok xs φ) ∧ I 0 m φ ∧
      (∀ k v m φ, xs[k]? = some v → I k m φ → Ag C d env target v (Ss C d env body (loopK (I (k + 1)) Q)) m φ) ∧
      (∀ m φ, I xs.length m φ → Q .next m φ)) m φ)
    (hs : ∀ x, foldedSetIterable iter env x = pure x := by intro _; rfl) : S C d env (.For target iter body [] pos) Q m φ := .raw fun ρ A s ro F => by
  refine wpAny_For (h.then ro F fun v m' φ' s' F' q => ?_) hs
  obtain ⟨κ, xs, I, hf, ht, hok, h0, turn, fin⟩ := q
  refine iter_of F' hf rfl fun it s2 hn F2 => ?_
  refine codeAny_mono (code_for I ht hok turn fin ro hn 0 m' φ' s2 (Nat.zero_le _) h0 F2) fun r s3 ⟨f, m3, φ3, e, F3, q3⟩ => ?_
  subst e
  exact ⟨m3, φ3, F3, q3⟩
def whileK (C : Cx) (d : Nat) (env : Env) (body : List Stmt) (J : Frm → Phi → Prop) (Q : Flow → Frm → Phi → Prop) (c : Bool) (m : Frm) (φ : Phi) : Prop := if c = true then Ss C d env body (loopK J Q) m φ else Q .next m φ
/-- while test: body -/
theorem S_While {test : Expr} {body : List Stmt} {pos} {m : Frm} {φ : Phi} {Q : Flow → Frm → Phi → Prop} (I : Nat → Frm → Phi → Prop) (n : Nat) (h0 : I n m φ)
    (turn : ∀ n m φ, I n m φ → T C d env test (whileK C d env body (fun m φ => ∃ n', n' < n ∧ I n' m φ) Q) m φ) :
    S C d env (.While test body [] pos) Q m φ := .raw fun ρ A s ro F => by
  refine wpAny_While (codeAny_mono (R := fun r s' => ∃ f m' φ', r = .ok f ∧ FS C env.locals m' φ' ρ s' ∧ Q (erF f) m' φ') ?_ fun r s3 ⟨f, m3, φ3, e, F3, q3⟩ => ?_)
  · refine codeAny_whileLoop (fun n s => ∃ m φ, I n m φ ∧ FS C env.locals m φ ρ s) (fun n s hI => ?_) n ⟨m, φ, h0, F⟩
    obtain ⟨m, φ, hI, F⟩ := hI
    refine B.then (turn n m φ hI) ro F fun b m2 φ2 s2 F2 q2 => ?_
    cases b with
    | false => exact wpAny_execs_nil ⟨.next, m2, φ2, rfl, F2, q2⟩
    | true =>
      refine B.then q2 ro F2 fun f m3 φ3 s3 F3 q3 => ?_
      cases f with
      | next => obtain ⟨n', hn, q3⟩ := q3; exact ⟨n', hn, m3, φ3, q3, F3⟩
      | cont => obtain ⟨n', hn, q3⟩ := q3; exact ⟨n', hn, m3, φ3, q3, F3⟩
      | brk => exact ⟨.next, m3, φ3, rfl, F3, q3⟩
      | ret v => exact ⟨.ret v, m3, φ3, rfl, F3, q3⟩
  · subst e
    exact ⟨m3, φ3, F3, q3⟩

theorem T_pairs {t : Addr} {v w : Value} {e1 e2 : Expr} {k pos} {m : Frm} {φ : Phi} {Q : Frm → Phi → Prop} (ht : φ t = some (.tup [v, w])) (h : Ag C d env e1 v (Ag C d env e2 w Q) m φ)
    (he : assignEach [e1, e2] env = [(false, assign e1 env), (false, assign e2 env)] := by rfl) : Ag C d env (.Tuple [e1, e2] k pos) (.ref t) Q m φ := fun u eu => .raw fun ρ A s ro F => by
  rw [er_ref eu]
  obtain ⟨items, n, q, r, sz⟩ := F.tup ht
  obtain ⟨a, b, e, ea, eb⟩ := ex2 r
  refine wpAny_assign_Tuple ro.1 (items := items) ⟨_, q, rfl, n, rfl⟩ (by rw [he, sz]; rfl) (by rw [he]; rfl) fun h' hx => ?_
  rw [he, e]
  have K : ∀ b o, s.heap.get? b = some o → h'.get? b = some o := fun b o e => hx b o (Nat.ne_of_lt (Heap.lt_size e)) e
  have F' := F.keep (tk := s.toks) K
  show wpAny _ _ (do holding [b] (assign e1 env a); assignInOrder [assign e2 env] [b]) _ _ _
  refine wpAny_bind (wpAny_holding ((h a ea).then ro F' fun _ m2 φ2 s2 F2 q2 => ?_))
  show wpAny _ _ (do holding [] (assign e2 env b); assignInOrder [] []) _ _ _
  refine wpAny_bind (wpAny_holding ((q2 b eb).then ro F2 fun _ m3 φ3 s3 F3 q3 => ?_))
  exact wpAny_pure ⟨m3, φ3, F3, q3⟩
end
end Mine

namespace Mine

theorem newEnv_any {M : Model} {A : Around} {E : Value → Shared → Prop} {s : Shared} {scope : Scope} {globals : Addr} {cl : List (Str × Addr)} {binds : List (Str × Value)} {qual : Str} {func : Option Addr} {code : Value} {around : Option Env}
    {builtins : Addr} {Q : Env → Shared → Prop}
    (h : ∀ env, env = newEnv scope s.heap.objs.size globals (cellsFrom (s.heap.objs.size + 1) scope.names cl) qual func code around builtins →
      wpAny M A (forIn binds PUnit.unit fun x (_ : PUnit) => do storeName env x.1 x.2; pure (ForInStep.yield PUnit.unit)) (fun _ s' => Q env s') E
        { s with heap := pushCells (s.heap.push { cls := .type (if around.isSome then "dict" else "frame"), data := .dict #[] }) scope.names }) :
    wpAny M A (newFunctionEnv scope globals cl binds qual func code around builtins) Q E s := by
  have h := h _ rfl
  cases around with
  | none =>
    simp only [newFunctionEnv, Option.isSome_none, Bool.false_eq_true, if_false] at h ⊢
    refine wpAny_bind (wpAny_alloc ?_)
    refine wpAny_bind (wpAny_layCells _ (fun name kind cells => by cases hkc : kind == NameKind.cell <;> simp [hkc]) _ _ _ _ ?_)
    rw [show ({ s with heap := s.heap.push { cls := .type "frame", data := .dict #[] } } : Shared).heap.objs.size = s.heap.objs.size + 1 from Heap.size_push ..]
    exact wpAny_bind (wpAny_mono h (fun _ s' q => wpAny_pure q) fun _ _ e => e)
  | some outer =>
    simp only [newFunctionEnv, Option.isSome_some, if_true] at h ⊢
    refine wpAny_bind (wpAny_alloc ?_)
    refine wpAny_bind (wpAny_layCells _ (fun name kind cells => by cases hkc : kind == NameKind.cell <;> simp [hkc]) _ _ _ _ ?_)
    rw [show ({ s with heap := s.heap.push { cls := .type "dict", data := .dict #[] } } : Shared).heap.objs.size = s.heap.objs.size + 1 from Heap.size_push ..]
    exact wpAny_bind (wpAny_mono h (fun _ s' q => wpAny_pure q) fun _ _ e => e)

/-- the cells that a frame opens with -/
def cellsPhi (n : Nat) : List (Str × NameKind) → Phi → Phi
  | [], φ => φ
  | (_, k) :: r, φ => if k == .cell then cellsPhi (n + 1) r (upd φ n (.cell none)) else cellsPhi n r φ

section
variable {C : Cx} {d : Nat} {L : Addr} {m : Frm} {φ ρ : Phi} {s : Shared}
theorem FS.cells (F : FS C L m φ ρ s) : ∀ (names : List (Str × NameKind)) (h : Heap) (φ : Phi) (tk : Nat), FS C L m φ ρ { s with heap := h, toks := tk } → FS C L m (cellsPhi h.objs.size names φ) ρ { s with heap := pushCells h names, toks := tk }
  | [], h, φ, tk, F => F
  | (_, k) :: r, h, φ, tk, F' => by
    unfold cellsPhi pushCells
    split
    · have := (F'.push (x := .cell Option.none) (o := { cls := .type "cell", data := .cell Option.none }) (tk := tk) ⟨Option.none, ⟨_, Heap.get?_push_size _ rfl, rfl⟩, rfl⟩).2.2
      have := F.cells r _ _ tk this
      rw [show (({ s with heap := h, toks := tk } : Shared).heap.push { cls := .type "cell", data := .cell Option.none }).objs.size = h.objs.size + 1 from Heap.size_push ..] at this
      exact this
    · exact F.cells r h φ tk F'
end

def fe (x : Str) (scope : Scope) (L f : Addr) (cd : Value) (cells : List (Str × Addr)) : Env :=
  { scope := scope, locals := L, globals := mainGlobals, cells := cells, qual := x ++ ".<locals>.", func := some f, code := cd, frame := some L, builtins := builtinsNs }

structure FnOk (C : Cx) (x : Str) (f : Addr) (params : Arguments) (body : List Stmt) (scope : Scope) : Prop where
  mg : C.mg x = some (.ref f)
  ob : ∃ o pm cd doc, C.s₀.heap.get? f = some o ∧ o.data = .func (Calls.docDef x params body scope pm cd doc) ∧ C.s₀.heap.CodeRec cd x

/-- the parameters are bound -/
def Bind (C : Cx) (d : Nat) (env : Env) : List (Str × Value) → (Frm → Phi → Prop) → Frm → Phi → Prop
  | [], Q, m, φ => Q m φ
  | (n, a) :: r, Q, m, φ => (env.kindOf n = some .local ∧ Bind C d env r Q (fset m n a) φ) ∨
      (env.kindOf n = some .cell ∧ ∃ c v₀, env.cells.lookup n = some c ∧ φ c = some (.cell v₀) ∧ Bind C d env r Q m (upd φ c (.cell (some a))))

section
variable {C : Cx} {d : Nat} {φ : Phi}
theorem Bind.out {env : Env} (hk : env.scope.kind = .function) {Q : Frm → Phi → Prop} : ∀ (binds : List (Str × Value)) (m : Frm) (φ : Phi), Bind C d env (binds.map fun x => (x.1, er x.2)) Q m φ →
    B C d env.locals (forIn binds PUnit.unit fun x (_ : PUnit) => do storeName env x.1 x.2; pure (ForInStep.yield PUnit.unit)) (fun _ m φ => Q m φ) m φ
  | [], m, φ, h => by rw [List.forIn_nil]; exact B.pure h
  | (n, v) :: r, m, φ, h => by
    rw [List.forIn_cons]
    rcases h with ⟨hx, h⟩ | ⟨hx, c, v₀, hc, hv, h⟩
    · exact B.bind (B.bind (B_store (B.pure (Bind.out hk r _ _ h)) hk hx))
    · exact B.bind (B.bind (B_storeC hc hv (B.pure (Bind.out hk r _ _ h)) hk hx))

def retOf : Flow → Value
  | .ret v => v
  | _ => .none

/-- a def is called -/
theorem W_def {x : Str} {f : Addr} {params : Arguments} {body : List Stmt} {scope : Scope} {vs : List Value} {binds : List (Str × Value)} {Q : Value → Phi → Prop} (G : Globs C) (H : FnOk C x f params body scope)
    (hb : ∀ pm cd doc, bindArgs (Calls.docDef x params body scope pm cd doc) ⟨vs, []⟩ = pure binds)
    (h : ∀ L cd, (∀ a, L ≤ a → φ a = none) → Bind C d (fe x scope L f cd (cellsFrom (L + 1) scope.names [])) (binds.map fun x => (x.1, er x.2))
      (Ss C d (fe x scope L f cd (cellsFrom (L + 1) scope.names [])) body (fun fl _ φ' => Q (retOf fl) φ')) (fun _ => none) (cellsPhi (L + 1) scope.names φ))
    (hk : scope.kind = .function := by rfl) (hco : scope.isCoroutine = false := by rfl) (hgen : scope.isGenerator = false := by rfl) : W C (d + 1) (call (.ref f) vs []) (fun v => Q (er v)) φ := fun ρ A s ro ap st => by
  obtain ⟨o, pm, cd, doc, ho, hd, hcd⟩ := H.ob
  have hro : A.depth < recursionLimit := by
    have h2 : A.depth + (d + 1) ≤ 900 := ro.2.1
    show A.depth < 1000
    omega
  refine wpAny_call (codeAny_call_function (body := body) hro (st.stays _ _ ho) hd hco hgen rfl (hcd.keeps st.stays) ?_)
  rw [hb]
  refine wpAny_pure (newEnv_any fun env he => ?_)
  have he : env = fe x scope s.heap.objs.size f cd (cellsFrom (s.heap.objs.size + 1) scope.names []) := he
  have hfr : ∀ a, s.heap.objs.size ≤ a → join φ ρ a = none := fun a ha => (st.fresh (Heap.get?_none_of_le ha)).1
  -- the frame
  have F0 : FS C s.heap.objs.size (fun _ => none) φ ρ { s with heap := s.heap.push { cls := .type "frame", data := .dict #[] } } := by
    have n0 := join_none (hfr _ (Nat.le_refl _))
    refine ⟨n0.1, ap.upd n0.2, ?_⟩
    rw [join_upd]
    exact st.alloc (tk := s.toks) (fun _ _ e => Heap.get?_push_of_some _ e) (Heap.get?_none_of_le (Nat.le_refl _)) ⟨fun _ => none, Heap.Ns.new .., fun _ => rfl⟩
  have F1 := F0.cells scope.names _ φ s.toks F0
  rw [show ({ s with heap := s.heap.push { cls := .type "frame", data := .dict #[] } } : Shared).heap.objs.size = s.heap.objs.size + 1 from Heap.size_push ..] at F1
  have hl : env.locals = s.heap.objs.size := by rw [he]; rfl
  have hsk : env.scope.kind = .function := by rw [he]; exact hk
  have hB := Bind.out hsk binds (fun _ => none) _ (he ▸ h s.heap.objs.size cd fun a ha => (join_none (hfr a ha)).1)
  have ro1 : Room d A.in1 := ro.in1
  have F1' : FS C env.locals (fun _ => none) (cellsPhi (s.heap.objs.size + 1) scope.names φ) ρ { s with heap := pushCells (s.heap.push { cls := .type "frame", data := .dict #[] }) scope.names } := by
    rw [hl]; exact F1
  refine B.then hB ro1 F1' fun _ m2 φ2 s2 F2 q2 => ⟨G.nolimit.keeps F2.stays, ?_⟩
  have ro2 : Room d (A.deeper env) := ro.deeper
  refine codeAny_func ?_
  refine B.then q2 ro2 F2 fun fl m3 φ3 s3 F3 q3 => ?_
  have hres : ∀ v : Value, Q (er v) φ3 → ∃ φ', Apart φ' ρ ∧ St C (join φ' ρ) s3 ∧ Q (er v) φ' := fun v q => by
    have le : Le φ3 (upd φ3 env.locals (.ns m3)) := Le.alloc (Le.refl _) F3.none
    refine ⟨φ3, fun a => (F3.ap a).imp (fun z => le.none z) id, F3.st.le fun a y e => ?_, q⟩
    unfold join at e ⊢
    cases e1 : φ3 a with
    | none =>
      rw [e1] at e
      have e : ρ a = some y := e
      have : upd φ3 env.locals (.ns m3) a = none := (F3.ap a).resolve_right fun z => by rw [z] at e; cases e
      rw [this]; exact e
    | some o' => rw [e1] at e; rw [le _ _ e1]; exact e
  cases fl with
  | next => exact hres .none q3
  | brk => exact hres .none q3
  | cont => exact hres .none q3
  | ret v => exact hres v q3
end
end Mine

namespace Mine

/-! the heap, in plain lists -/
abbrev Key := Value → Int × Int
def ple (p q : Int × Int) : Prop := ¬ plt q p
theorem ple_refl (p : Int × Int) : ple p p := by unfold ple plt; omega
theorem ple_trans {p q r : Int × Int} (h : ple p q) (k : ple q r) : ple p r := by unfold ple plt at *; omega
theorem ple_of_plt {p q : Int × Int} (h : plt p q) : ple p q := by unfold ple plt at *; omega
theorem ple_antisymm {p q : Int × Int} (h : ple p q) (k : ple q p) : p = q := by
  unfold ple plt at *
  exact Prod.ext (by omega) (by omega)
/-- the item at a place -/
def at_ (xs : List Value) (i : Nat) : Value := xs.getD i .none
theorem at_get {xs : List Value} {i : Nat} (h : i < xs.length) : xs[i]? = some (at_ xs i) := by
  unfold at_; rw [List.getD_eq_getElem?_getD, List.getElem?_eq_getElem h]; rfl
theorem at_mem {xs : List Value} {i : Nat} (h : i < xs.length) : at_ xs i ∈ xs := List.mem_of_getElem? (at_get h)
theorem at_set {xs : List Value} {i j : Nat} {v : Value} (h : i < xs.length) : at_ (xs.set i v) j = if i = j then v else at_ xs j := by
  unfold at_
  rw [List.getD_eq_getElem?_getD, List.getD_eq_getElem?_getD, List.getElem?_set]
  by_cases e : i = j
  · subst e; simp [h]
  · simp [e]
/-- a set, by counts -/
theorem count_set (a : Value) : ∀ (xs : List Value) (i : Nat) (v : Value), i < xs.length → (xs.set i v).count a + (if at_ xs i = a then 1 else 0) = xs.count a + (if v = a then 1 else 0)
  | [], i, v, h => absurd h (by simp)
  | x :: xs, 0, v, h => by
    show (v :: xs).count a + (if x = a then 1 else 0) = _
    simp only [List.count_cons, beq_iff_eq]
    omega
  | x :: xs, i + 1, v, h => by
    have := count_set a xs i v (by simpa using h)
    show (x :: xs.set i v).count a + (if at_ xs i = a then 1 else 0) = _
    simp only [List.count_cons]
    omega
theorem perm_move {xs zs : List Value} {i j : Nat} {x : Value} (hi : i < xs.length) (hj : j < xs.length) (hij : i ≠ j) (h : (xs.set i x).Perm zs) : ((xs.set i (at_ xs j)).set j x).Perm zs := by
  refine List.Perm.trans ?_ h
  rw [List.perm_iff_count]
  intro a
  have h1 := count_set a xs i x hi
  have h2 := count_set a xs i (at_ xs j) hi
  have h3 := count_set a (xs.set i (at_ xs j)) j x (by simpa using hj)
  rw [at_set hi, if_neg hij] at h3
  omega
theorem set_at {xs : List Value} {i : Nat} (h : i < xs.length) : xs.set i (at_ xs i) = xs := by
  apply List.ext_getElem?
  intro j
  rw [List.getElem?_set]
  by_cases e : i = j
  · subst e; simp only [if_true, h]; exact (at_get h).symm
  · simp [e]

/-- the order below s holds -/
def HeapFrom (key : Key) (s : Nat) (xs : List Value) : Prop := ∀ c, 0 < c → c < xs.length → s ≤ (c - 1) / 2 → ple (key (at_ xs ((c - 1) / 2))) (key (at_ xs c))
/-- i lies below s, or is s -/
inductive Sub (s : Nat) : Nat → Prop where
  | refl : Sub s s
  | step {p c : Nat} : Sub s p → 0 < c → (c - 1) / 2 = p → Sub s c
theorem Sub.le {s i : Nat} (h : Sub s i) : s ≤ i := by
  induction h with
  | refl => exact Nat.le_refl _
  | step _ h0 e ih => omega
theorem Sub.up {s i : Nat} (h : Sub s i) (k : s < i) : Sub s ((i - 1) / 2) := by
  cases h with
  | refl => exact absurd k (Nat.lt_irrefl _)
  | step h h0 e => rw [e]; exact h
theorem Sub.zero (i : Nat) : Sub 0 i := by
  induction i using Nat.strongRecOn with
  | ind i ih =>
    by_cases h : i = 0
    · subst h; exact .refl
    · exact .step (ih ((i - 1) / 2) (by omega)) (by omega) rfl
/-- a hole at pos, x is to come -/
structure Hole (key : Key) (s : Nat) (xs : List Value) (pos : Nat) (x : Value) : Prop where
  lt : pos < xs.length
  sub : Sub s pos
  rest : ∀ c, 0 < c → c < xs.length → s ≤ (c - 1) / 2 → c ≠ pos → (c - 1) / 2 ≠ pos → ple (key (at_ xs ((c - 1) / 2))) (key (at_ xs c))
  kids : ∀ c, 0 < c → c < xs.length → (c - 1) / 2 = pos → ple (key x) (key (at_ xs c))
  grand : s < pos → ∀ c, 0 < c → c < xs.length → (c - 1) / 2 = pos → ple (key (at_ xs ((pos - 1) / 2))) (key (at_ xs c))
theorem Hole.up {key : Key} {s pos : Nat} {xs : List Value} {x : Value} (h : Hole key s xs pos x) (k : s < pos) (hx : plt (key x) (key (at_ xs ((pos - 1) / 2)))) : Hole key s (xs.set pos (at_ xs ((pos - 1) / 2))) ((pos - 1) / 2) x := by
  have hs : Sub s ((pos - 1) / 2) := h.sub.up k
  have hpp : (pos - 1) / 2 < pos := by omega
  have hl := h.lt
  refine ⟨by rw [List.length_set]; omega, hs, fun c h0 hc hsc hne hpe => ?_, fun c h0 hc hpc => ?_, fun hk c h0 hc hpc => ?_⟩
  · rw [List.length_set] at hc
    rw [at_set hl, at_set hl]
    by_cases e1 : pos = (c - 1) / 2
    · rw [if_pos e1, if_neg (by omega)]
      exact h.grand k c h0 hc e1.symm
    · rw [if_neg e1]
      by_cases e2 : pos = c
      · subst e2; exact absurd rfl hpe
      · rw [if_neg e2]; exact h.rest c h0 hc hsc (Ne.symm e2) (Ne.symm e1)
  · rw [List.length_set] at hc
    rw [at_set hl]
    by_cases e2 : pos = c
    · rw [if_pos e2]; exact ple_of_plt hx
    · rw [if_neg e2]
      have := h.rest c h0 hc (by have := hs.le; omega) (Ne.symm e2) (by omega)
      rw [hpc] at this
      exact ple_trans (ple_of_plt hx) this
  · rw [List.length_set] at hc
    have e0 : pos ≠ ((pos - 1) / 2 - 1) / 2 := by omega
    rw [at_set hl, at_set hl, if_neg e0]
    have g := h.rest ((pos - 1) / 2) (by omega) (by omega) (by have := (hs.up hk).le; omega) (by omega) (by omega)
    by_cases e2 : pos = c
    · rw [if_pos e2]; exact g
    · rw [if_neg e2]
      have := h.rest c h0 hc (by have := hs.le; omega) (Ne.symm e2) (by omega)
      rw [hpc] at this
      exact ple_trans g this
theorem Hole.fill {key : Key} {s pos : Nat} {xs : List Value} {x : Value} (h : Hole key s xs pos x) (k : s < pos → ¬ plt (key x) (key (at_ xs ((pos - 1) / 2)))) : HeapFrom key s (xs.set pos x) := by
  intro c h0 hc hsc
  have hl := h.lt
  rw [List.length_set] at hc
  rw [at_set hl, at_set hl]
  by_cases e1 : pos = (c - 1) / 2
  · rw [if_pos e1, if_neg (by omega)]
    exact h.kids c h0 hc e1.symm
  · rw [if_neg e1]
    by_cases e2 : pos = c
    · rw [if_pos e2]
      subst e2
      have := h.sub.le
      exact k (by omega)
    · rw [if_neg e2]; exact h.rest c h0 hc hsc (Ne.symm e2) (Ne.symm e1)
/-- a hole that sinks -/
structure Down (key : Key) (s : Nat) (xs : List Value) (pos : Nat) : Prop where
  lt : pos < xs.length
  sub : Sub s pos
  rest : ∀ c, 0 < c → c < xs.length → s ≤ (c - 1) / 2 → c ≠ pos → (c - 1) / 2 ≠ pos → ple (key (at_ xs ((c - 1) / 2))) (key (at_ xs c))
  grand : s < pos → ∀ c, 0 < c → c < xs.length → (c - 1) / 2 = pos → ple (key (at_ xs ((pos - 1) / 2))) (key (at_ xs c))
theorem Down.start {key : Key} {s : Nat} {xs : List Value} (h : HeapFrom key (s + 1) xs) (k : s < xs.length) : Down key s xs s :=
  ⟨k, .refl, fun c h0 hc hsc hne hpe => h c h0 hc (by omega), fun hk => absurd hk (Nat.lt_irrefl _)⟩
theorem Down.step {key : Key} {s pos c : Nat} {xs : List Value} (h : Down key s xs pos) (hc : c < xs.length) (hp : c = 2 * pos + 1 ∨ c = 2 * pos + 2)
    (hmin : ∀ c', (c' = 2 * pos + 1 ∨ c' = 2 * pos + 2) → c' < xs.length → ple (key (at_ xs c)) (key (at_ xs c'))) : Down key s (xs.set pos (at_ xs c)) c := by
  have hl := h.lt
  have hs := h.sub.le
  have hcp : (c - 1) / 2 = pos := by omega
  refine ⟨by rw [List.length_set]; exact hc, .step h.sub (by omega) hcp, fun d h0 hd hsd hne hpe => ?_, fun hk d h0 hd hpd => ?_⟩
  · rw [List.length_set] at hd
    rw [at_set hl, at_set hl]
    by_cases e1 : pos = (d - 1) / 2
    · rw [if_pos e1, if_neg (by omega)]
      exact hmin d (by omega) hd
    · rw [if_neg e1]
      by_cases e2 : pos = d
      · rw [if_pos e2]; subst e2
        exact h.grand (by omega) c (by omega) hc hcp
      · rw [if_neg e2]; exact h.rest d h0 hd hsd (Ne.symm e2) (Ne.symm e1)
  · rw [List.length_set] at hd
    rw [at_set hl, at_set hl, if_pos hcp.symm, if_neg (by omega)]
    have := h.rest d h0 hd (by omega) (by omega) (by omega)
    rw [hpd] at this
    exact this
theorem Down.hole {key : Key} {s pos : Nat} {xs : List Value} {x : Value} (h : Down key s xs pos) (hn : xs.length ≤ 2 * pos + 1) : Hole key s (xs.set pos x) pos x := by
  have hl := h.lt
  refine ⟨by rw [List.length_set]; exact h.lt, h.sub, fun c h0 hc hsc hne hpe => ?_, fun c h0 hc hpc => ?_, fun _ c h0 hc hpc => ?_⟩
  · rw [List.length_set] at hc
    rw [at_set hl, at_set hl, if_neg (Ne.symm hpe), if_neg (Ne.symm hne)]
    exact h.rest c h0 hc hsc hne hpe
  · rw [List.length_set] at hc; omega
  · rw [List.length_set] at hc; omega
/-- a heap's first is its least -/
theorem HeapFrom.first {key : Key} {xs : List Value} (h : HeapFrom key 0 xs) : ∀ i, i < xs.length → ple (key (at_ xs 0)) (key (at_ xs i)) := by
  intro i
  induction i using Nat.strongRecOn with
  | ind i ih =>
    intro hi
    by_cases e : i = 0
    · subst e; exact ple_refl _
    · exact ple_trans (ih ((i - 1) / 2) (by omega) (by omega)) (h i (by omega) hi (Nat.zero_le _))
theorem HeapFrom.first_mem {key : Key} {xs : List Value} (h : HeapFrom key 0 xs) {v : Value} (hv : v ∈ xs) : ple (key (at_ xs 0)) (key v) := by
  obtain ⟨i, hi, e⟩ := List.mem_iff_getElem.mp hv
  have : at_ xs i = v := by
    have := at_get hi
    rw [List.getElem?_eq_getElem hi] at this
    exact (Option.some.inj this).symm.trans e
  rw [← this]
  exact h.first i hi
theorem HeapFrom.nil (key : Key) : HeapFrom key 0 [] := fun c h0 hc => absurd hc (by simp)
theorem at_append_left {xs ys : List Value} {i : Nat} (h : i < xs.length) : at_ (xs ++ ys) i = at_ xs i := by
  unfold at_; rw [List.getD_eq_getElem?_getD, List.getD_eq_getElem?_getD, List.getElem?_append_left h]
theorem at_last {xs : List Value} {v : Value} : at_ (xs ++ [v]) xs.length = v := by
  unfold at_; rw [List.getD_eq_getElem?_getD]; simp
theorem HeapFrom.push_hole {key : Key} {xs : List Value} {x : Value} (h : HeapFrom key 0 xs) : Hole key 0 (xs ++ [x]) xs.length x := by
  have hl : (xs ++ [x]).length = xs.length + 1 := by simp
  refine ⟨by omega, Sub.zero _, fun c h0 hc _ hne hpe => ?_, fun c h0 hc hpc => ?_, fun _ c h0 hc hpc => ?_⟩
  · rw [at_append_left (by omega), at_append_left (by omega)]
    exact h c h0 (by omega) (Nat.zero_le _)
  · omega
  · omega
theorem HeapFrom.pop {key : Key} {xs : List Value} {x : Value} {s : Nat} (h : HeapFrom key s (xs ++ [x])) : HeapFrom key s xs := fun c h0 hc hs => by
  have := h c h0 (by simp; omega) hs
  rwa [at_append_left (by omega), at_append_left hc] at this
theorem HeapFrom.set0 {key : Key} {xs : List Value} {x : Value} (h : HeapFrom key 0 xs) (hn : 0 < xs.length) : HeapFrom key 1 (xs.set 0 x) := fun c h0 hc hs => by
  rw [List.length_set] at hc
  rw [at_set hn, at_set hn, if_neg (by omega), if_neg (by omega)]
  exact h c h0 hc (Nat.zero_le _)
theorem HeapFrom.half (key : Key) (xs : List Value) : HeapFrom key (xs.length / 2) xs := fun c h0 hc hs => by omega
end Mine

namespace Mine

structure Loc (env : Env) (x : Str) : Prop where
  f : env.scope.kind = .function
  k : env.kindOf x = some .local
  d : (x == ("__debug__" : Str)) = false
structure Cel (env : Env) (x : Str) (c : Addr) : Prop where
  f : env.scope.kind = .function
  k : env.kindOf x = some .cell
  l : env.cells.lookup x = some c
  d : (x == ("__debug__" : Str)) = false
structure Fre (env : Env) (x : Str) (c : Addr) : Prop where
  f : env.scope.kind = .function
  k : env.kindOf x = some .free
  l : env.cells.lookup x = some c
  d : (x == ("__debug__" : Str)) = false
  n : (x == ("__classdict__" : Str)) = false
structure Glb (env : Env) (x : Str) : Prop where
  f : env.scope.kind = .function
  k : env.kindOf x = some .globalImplicit
  d : (x == ("__debug__" : Str)) = false
  g : env.globals = mainGlobals
  b : env.builtins = builtinsNs
/-- a built-in's name -/
structure Blt (C : Cx) (x : Str) (v : Value) : Prop where
  g : Globs C
  m : C.mg x = none
  b : C.mb x = some v

section
variable {C : Cx} {d : Nat} {env : Env} {m : Frm} {φ : Phi} {Q : Value → Frm → Phi → Prop}
theorem N_local {x : Str} {pos : Pos} {v : Value} (K : Loc env x) (hm : m x = some v) (h : Q v m φ) : E C d env (.Name x pos) Q m φ := E_local hm h K.f K.k K.d
theorem N_cell {x : Str} {pos : Pos} {c : Addr} {v : Value} (K : Cel env x c) (hv : φ c = some (.cell (some v))) (h : Q v m φ) : E C d env (.Name x pos) Q m φ := E_cell K.l hv h K.f K.k K.d
theorem N_free {x : Str} {pos : Pos} {c : Addr} {v : Value} (K : Fre env x c) (hv : φ c = some (.cell (some v))) (h : Q v m φ) : E C d env (.Name x pos) Q m φ := E_free K.l hv h K.f K.k K.d K.n
theorem A_local {x pos' value pos} {Q : Flow → Frm → Phi → Prop} (K : Loc env x) (h : E C d env value (fun v m' φ' => Q .next (fset m' x v) φ') m φ)
    (hs : swapsWith value (some (.Name x pos')) pos.line env = pure false := by rfl) : S C d env (.Assign [.Name x pos'] value pos) Q m φ := S_Assign h K.f K.k hs
theorem A_cell {x pos' value pos} {c : Addr} {Q : Flow → Frm → Phi → Prop} (K : Cel env x c) (h : E C d env value (fun v m' φ' => ∃ v₀, φ' c = some (.cell v₀) ∧ Q .next m' (upd φ' c (.cell (some v)))) m φ)
    (hs : swapsWith value (some (.Name x pos')) pos.line env = pure false := by rfl) : S C d env (.Assign [.Name x pos'] value pos) Q m φ := S_AssignC K.l h K.f K.k hs
theorem G_local {x pos} {a : Value} {Q : Frm → Phi → Prop} (K : Loc env x) (h : Q (fset m x a) φ) : Ag C d env (.Name x pos) a Q m φ := Ag_Name h K.f K.k
theorem C_fn {x p args pos} {f : Addr} {params : Arguments} {body : List Stmt} {scope : Scope} (K : Glb env x) (G : Globs C) (H : FnOk C x f params body scope)
    (h : Es C d env args (fun vs => CallV C d env.locals (.ref f) vs Q) m φ) (hne : args ≠ [] := by simp)
    (hs : ∀ pos, ∃ y r, backTo pos (starEach args env) = (false, y) :: r := by intro _; exact ⟨_, _, rfl⟩) : E C d env (.Call (.Name x p) args [] pos) Q m φ := by
  obtain ⟨o, pm, cd, doc, ho, hd, hcd⟩ := H.ob
  exact E_CallFn G H.mg ho hd h K.g K.f K.k K.d hne hs
theorem C_blt {x p args pos} {id : String} (K : Glb env x) (H : Blt C x (.builtin id)) (h : Es C d env args (fun vs => CallV C d env.locals (.builtin id) vs Q) m φ)
    (hs : ∀ pos, ∃ y r, backTo pos (starEach args env) = (false, y) :: r := by intro _; exact ⟨_, _, rfl⟩)
    (hp : ∀ pos, (backTo pos (starEach args env)).any (·.1) = false := by intro _; rfl) : E C d env (.Call (.Name x p) args [] pos) Q m φ := E_CallB H.g H.m H.b h K.g K.b K.f K.k K.d hs hp
theorem C_typ {x p args pos} {id : String} (K : Glb env x) (H : Blt C x (.type id)) (h : Es C d env args (fun vs => CallV C d env.locals (.type id) vs Q) m φ)
    (hs : ∀ pos, ∃ y r, backTo pos (starEach args env) = (false, y) :: r := by intro _; exact ⟨_, _, rfl⟩)
    (hp : ∀ pos, (backTo pos (starEach args env)).any (·.1) = false := by intro _; rfl) : E C d env (.Call (.Name x p) args [] pos) Q m φ := E_CallT H.g H.m H.b h K.g K.b K.f K.k K.d hs hp

/-- a contract -/
def Ct (C : Cx) (d : Nat) (f : Addr) (as : List Value) (Q : Value → Phi → Prop) (φ : Phi) : Prop := ∀ vs, vs.map er = as → W C d (call (.ref f) vs []) (fun v => Q (er v)) φ
theorem V_fn {L : Addr} {f : Addr} {d' : Nat} {as : List Value} {P : Value → Phi → Prop} (h : Ct C d' f as P φ) (hd : d' ≤ d) (k : ∀ v φ', P v φ' → Q v m φ') : CallV C d L (.ref f) as Q m φ :=
  CallV_fn (fun vs e => (h vs e).le hd) k
theorem Ct.mono {f as} {P P' : Value → Phi → Prop} (h : Ct C d f as P φ) (k : ∀ v φ', P v φ' → P' v φ') : Ct C d f as P' φ := fun vs e => (h vs e).mono fun v φ' => k _ _
theorem ex3 {vs : List Value} {a b c : Value} (h : vs.map er = [a, b, c]) : ∃ u v w, vs = [u, v, w] ∧ er u = a ∧ er v = b ∧ er w = c := by
  match vs, h with
  | [u, v, w], h => exact ⟨u, v, w, rfl, (List.cons.inj h).1, (List.cons.inj (List.cons.inj h).2).1, (List.cons.inj (List.cons.inj (List.cons.inj h).2).2).1⟩
theorem ex4 {vs : List Value} {a b c e : Value} (h : vs.map er = [a, b, c, e]) : ∃ u v w x, vs = [u, v, w, x] ∧ er u = a ∧ er v = b ∧ er w = c ∧ er x = e := by
  match vs, h with
  | [u, v, w, x], h => exact ⟨u, v, w, x, rfl, (List.cons.inj h).1, (List.cons.inj (List.cons.inj h).2).1, (List.cons.inj (List.cons.inj (List.cons.inj h).2).2).1, (List.cons.inj (List.cons.inj (List.cons.inj (List.cons.inj h).2).2).2).1⟩
section
variable {x : Str} {f : Addr} {params : Arguments} {body : List Stmt} {scope : Scope} {Q : Value → Phi → Prop} {n1 n2 n3 n4 : Str} {a1 a2 a3 a4 : Value} (G : Globs C) (H : FnOk C x f params body scope)
  (hk : scope.kind = .function := by rfl) (hco : scope.isCoroutine = false := by rfl) (hgen : scope.isGenerator = false := by rfl)
include G H hk hco hgen
theorem Ct_def1 (hb : ∀ pm cd doc v1, bindArgs (Calls.docDef x params body scope pm cd doc) ⟨[v1], []⟩ = pure [(n1, v1)])
    (h : ∀ L cd, (∀ a, L ≤ a → φ a = none) → ∀ env, env = fe x scope L f cd (cellsFrom (L + 1) scope.names []) → Bind C d env [(n1, a1)] (Ss C d env body (fun fl _ φ' => Q (retOf fl) φ')) (fun _ => none) (cellsPhi (L + 1) scope.names φ)) :
    Ct C (d + 1) f [a1] Q φ := fun vs e => by
  obtain ⟨v1, rfl, rfl⟩ := ex1 e
  exact W_def G H (binds := [(n1, v1)]) (fun pm cd doc => hb pm cd doc v1) (fun L cd hL => h L cd hL _ rfl) hk hco hgen
theorem Ct_def2 (hb : ∀ pm cd doc v1 v2, bindArgs (Calls.docDef x params body scope pm cd doc) ⟨[v1, v2], []⟩ = pure [(n1, v1), (n2, v2)])
    (h : ∀ L cd, (∀ a, L ≤ a → φ a = none) → ∀ env, env = fe x scope L f cd (cellsFrom (L + 1) scope.names []) → Bind C d env [(n1, a1), (n2, a2)] (Ss C d env body (fun fl _ φ' => Q (retOf fl) φ')) (fun _ => none) (cellsPhi (L + 1) scope.names φ)) :
    Ct C (d + 1) f [a1, a2] Q φ := fun vs e => by
  obtain ⟨v1, v2, rfl, rfl, rfl⟩ := ex2 e
  exact W_def G H (binds := [(n1, v1), (n2, v2)]) (fun pm cd doc => hb pm cd doc v1 v2) (fun L cd hL => h L cd hL _ rfl) hk hco hgen
theorem Ct_def3 (hb : ∀ pm cd doc v1 v2 v3, bindArgs (Calls.docDef x params body scope pm cd doc) ⟨[v1, v2, v3], []⟩ = pure [(n1, v1), (n2, v2), (n3, v3)])
    (h : ∀ L cd, (∀ a, L ≤ a → φ a = none) → ∀ env, env = fe x scope L f cd (cellsFrom (L + 1) scope.names []) → Bind C d env [(n1, a1), (n2, a2), (n3, a3)] (Ss C d env body (fun fl _ φ' => Q (retOf fl) φ')) (fun _ => none) (cellsPhi (L + 1) scope.names φ)) :
    Ct C (d + 1) f [a1, a2, a3] Q φ := fun vs e => by
  obtain ⟨v1, v2, v3, rfl, rfl, rfl, rfl⟩ := ex3 e
  exact W_def G H (binds := [(n1, v1), (n2, v2), (n3, v3)]) (fun pm cd doc => hb pm cd doc v1 v2 v3) (fun L cd hL => h L cd hL _ rfl) hk hco hgen
theorem Ct_def4 (hb : ∀ pm cd doc v1 v2 v3 v4, bindArgs (Calls.docDef x params body scope pm cd doc) ⟨[v1, v2, v3, v4], []⟩ = pure [(n1, v1), (n2, v2), (n3, v3), (n4, v4)])
    (h : ∀ L cd, (∀ a, L ≤ a → φ a = none) → ∀ env, env = fe x scope L f cd (cellsFrom (L + 1) scope.names []) → Bind C d env [(n1, a1), (n2, a2), (n3, a3), (n4, a4)] (Ss C d env body (fun fl _ φ' => Q (retOf fl) φ')) (fun _ => none) (cellsPhi (L + 1) scope.names φ)) :
    Ct C (d + 1) f [a1, a2, a3, a4] Q φ := fun vs e => by
  obtain ⟨v1, v2, v3, v4, rfl, rfl, rfl, rfl, rfl⟩ := ex4 e
  exact W_def G H (binds := [(n1, v1), (n2, v2), (n3, v3), (n4, v4)]) (fun pm cd doc => hb pm cd doc v1 v2 v3 v4) (fun L cd hL => h L cd hL _ rfl) hk hco hgen
omit G H hk hco hgen
theorem Bind_local {env : Env} {n a r} {Q : Frm → Phi → Prop} (K : Loc env n) (h : Bind C d env r Q (fset m n a) φ) : Bind C d env ((n, a) :: r) Q m φ := .inl ⟨K.k, h⟩
theorem Bind_cell {env : Env} {n a r c v₀} {Q : Frm → Phi → Prop} (K : Cel env n c) (hv : φ c = some (.cell v₀)) (h : Bind C d env r Q m (upd φ c (.cell (some a)))) : Bind C d env ((n, a) :: r) Q m φ := .inr ⟨K.k, c, v₀, K.l, hv, h⟩
theorem Bind_nil {env : Env} {Q : Frm → Phi → Prop} (h : Q m φ) : Bind C d env [] Q m φ := h
end
/-- facts of a frame's names, from the scope -/
theorem loc_of {env : Env} {x : Str} {sc : Scope} (he : env.scope = sc) (h : (decide (sc.kind = .function) && decide (sc.names.lookup x = some .local) && !(x == ("__debug__" : Str))) = true) : Loc env x := by
  simp only [Bool.and_eq_true, decide_eq_true_eq, Bool.not_eq_true'] at h
  exact ⟨by rw [he]; exact h.1.1, by show env.scope.names.lookup x = _; rw [he]; exact h.1.2, h.2⟩
theorem glb_of {env : Env} {x : Str} {sc : Scope} (he : env.scope = sc) (hg : env.globals = mainGlobals) (hb : env.builtins = builtinsNs) (h : (decide (sc.kind = .function) && decide (sc.names.lookup x = some .globalImplicit) && !(x == ("__debug__" : Str))) = true) : Glb env x := by
  simp only [Bool.and_eq_true, decide_eq_true_eq, Bool.not_eq_true'] at h
  exact ⟨by rw [he]; exact h.1.1, by show env.scope.names.lookup x = _; rw [he]; exact h.1.2, h.2, hg, hb⟩
theorem cel_of {env : Env} {x : Str} {sc : Scope} {c : Addr} (he : env.scope = sc) (hl : env.cells.lookup x = some c) (h : (decide (sc.kind = .function) && decide (sc.names.lookup x = some .cell) && !(x == ("__debug__" : Str))) = true) : Cel env x c := by
  simp only [Bool.and_eq_true, decide_eq_true_eq, Bool.not_eq_true'] at h
  exact ⟨by rw [he]; exact h.1.1, by show env.scope.names.lookup x = _; rw [he]; exact h.1.2, hl, h.2⟩
end

theorem ne_of_fresh {φ : Phi} {a b : Addr} {x : AO} (h : φ a = none) (e : φ b = some x) : b ≠ a := fun q => by rw [q, h] at e; cases e

def fnP (k : Nat) : Arguments := match PySem.Challenge.pw_dj5010_01.main.body.drop k with | .FunctionDef _ a _ _ _ _ _ _ _ _ :: _ => a | _ => {  posonlyargs := [], args := [], vararg := none, kwonlyargs := [], kw_defaults := [], kwarg := none, defaults := [] }
def fnB (k : Nat) : List Stmt := match PySem.Challenge.pw_dj5010_01.main.body.drop k with | .FunctionDef _ _ b _ _ _ _ _ _ _ :: _ => b | _ => []
def fnS (k : Nat) : Scope := match PySem.Challenge.pw_dj5010_01.main.body.drop k with | .FunctionDef _ _ _ _ _ _ s _ _ _ :: _ => s | _ => PySem.Challenge.pw_dj5010_01.main.scope
end Mine
namespace Mine
section
variable {C : Cx} {d : Nat} {L : Addr} {m : Frm} {φ : Phi} {Q : Value → Frm → Phi → Prop}
theorem I_list {value slice : Expr} {l : Addr} {xs : List Value} {n : Nat} (hl : φ l = some (.lst xs)) (h : Q (at_ xs n) m φ) (hn : n < xs.length)
    (hs : ∀ u : Nat, subscripted slice false (.ref l) (.int (n : Int) u) = operate [.ref l, .int (n : Int) u] (getItem (.ref l) (.int (n : Int) u))) :
    Op2 C d L (subscriptTail value slice) (.ref l) (.int (n : Int) 0) Q m φ := Op_item hl (by omega) (by rw [Int.toNat_natCast]; exact at_get hn) h hs
theorem I_list0 {value slice : Expr} {l : Addr} {xs : List Value} (hl : φ l = some (.lst xs)) (h : Q (at_ xs 0) m φ) (hn : 0 < xs.length)
    (hs : ∀ u : Nat, subscripted slice false (.ref l) (.int 0 u) = operate [.ref l, .int 0 u] (getItem (.ref l) (.int 0 u))) :
    Op2 C d L (subscriptTail value slice) (.ref l) (.int 0 0) Q m φ := Op_item hl (by omega) (at_get hn) h hs
theorem I_fst {value slice : Expr} {t : Addr} {v w : Value} (ht : φ t = some (.tup [v, w])) (h : Q v m φ)
    (hs : ∀ u : Nat, subscripted slice false (.ref t) (.int 0 u) = operate [.ref t, .int 0 u] (getItem (.ref t) (.int 0 u))) :
    Op2 C d L (subscriptTail value slice) (.ref t) (.int 0 0) Q m φ := Op_itemT ht (by omega) (by omega) rfl h hs
theorem I_snd {value slice : Expr} {t : Addr} {v w : Value} (ht : φ t = some (.tup [v, w])) (h : Q w m φ)
    (hs : ∀ u : Nat, subscripted slice false (.ref t) (.int 1 u) = operate [.ref t, .int 1 u] (getItem (.ref t) (.int 1 u))) :
    Op2 C d L (subscriptTail value slice) (.ref t) (.int 1 0) Q m φ := Op_itemT ht (by omega) (by omega) rfl h hs
theorem SetI_at {l : Addr} {xs : List Value} {n : Nat} {v : Value} {Q : Frm → Phi → Prop} (hl : φ l = some (.lst xs)) (h : Q m (upd φ l (.lst (xs.set n v)))) (hn : n < xs.length) :
    SetI C d L (.ref l) (.int (n : Int) 0) v Q m φ := SetI_list hl (by omega) (by omega) (by rw [Int.toNat_natCast]; exact h)
theorem SetI_at0 {l : Addr} {xs : List Value} {v : Value} {Q : Frm → Phi → Prop} (hl : φ l = some (.lst xs)) (h : Q m (upd φ l (.lst (xs.set 0 v)))) (hn : 0 < xs.length) :
    SetI C d L (.ref l) (.int 0 0) v Q m φ := SetI_list hl (by omega) (by omega) h
theorem Op_succ {n : Nat} (h : Q (.int ((n + 1 : Nat) : Int) 0) m φ) : Op2 C d L (binaryOp .Add) (.int (n : Int) 0) (.int 1 0) Q m φ := Op_add (by
  rw [show (n : Int) + 1 = ((n + 1 : Nat) : Int) by push_cast; rfl]; exact h)
theorem Op_dbl {n : Nat} (h : Q (.int ((2 * n : Nat) : Int) 0) m φ) : Op2 C d L (binaryOp .Mult) (.int 2 0) (.int (n : Int) 0) Q m φ := Op_mul (by mul_fits) (by
  rw [show 2 * (n : Int) = ((2 * n : Nat) : Int) by push_cast; rfl]; exact h)
theorem Op_pred {n : Nat} (h : Q (.int ((n - 1 : Nat) : Int) 0) m φ) (hn : 0 < n) : Op2 C d L (binaryOp .Sub) (.int (n : Int) 0) (.int 1 0) Q m φ := Op_sub (by
  rw [show (n : Int) - 1 = ((n - 1 : Nat) : Int) by omega]; exact h)
theorem Op_half {n : Nat} (h : Q (.int ((n / 2 : Nat) : Int) 0) m φ) : Op2 C d L (binaryOp .RShift) (.int (n : Int) 0) (.int 1 0) Q m φ := Op_rshift (by decide) (by
  rw [show (n : Int).fdiv (2 ^ (1 : Int).toNat) = ((n / 2 : Nat) : Int) by
    show (n : Int).fdiv 2 = _
    rw [Int.fdiv_eq_ediv_of_nonneg _ (by decide)]; omega]; exact h)
theorem Op_half' {n : Nat} (h : Q (.int ((n / 2 : Nat) : Int) 0) m φ) : Op2 C d L (binaryOp .FloorDiv) (.int (n : Int) 0) (.int 2 0) Q m φ := Op_floordiv (by decide) (PyProof.noPylong_of_log2 (by decide +kernel)) (by
  rw [show (n : Int).fdiv 2 = ((n / 2 : Nat) : Int) by rw [Int.fdiv_eq_ediv_of_nonneg _ (by decide)]; omega]; exact h)
theorem Op_gtN {i j : Nat} (h : Q (.bool (decide (j < i))) m φ) : Op2 C d L (compareOp .Gt) (.int (i : Int) 0) (.int (j : Int) 0) Q m φ := Op_gt (by
  rw [show decide ((j : Int) < (i : Int)) = decide (j < i) by simp]; exact h)
theorem Op_ltN {i j : Nat} (h : Q (.bool (decide (i < j))) m φ) : Op2 C d L (compareOp .Lt) (.int (i : Int) 0) (.int (j : Int) 0) Q m φ := Op_lt (by
  rw [show decide ((i : Int) < (j : Int)) = decide (i < j) by simp]; exact h)
theorem V_len {l : Addr} {xs : List Value} (hl : φ l = some (.lst xs)) (h : Q (.int ((xs.length : Nat) : Int) 0) m φ) : CallV C d L (.builtin "len") [.ref l] Q m φ := CallV_len hl h
theorem if_dec {p : Prop} [Decidable p] {X Y : Prop} (h1 : p → X) (h2 : ¬ p → Y) : if decide p = true then X else Y := by
  by_cases h : p
  · rw [if_pos (by simpa using h)]; exact h1 h
  · rw [if_neg (by simpa using h)]; exact h2 h
end
end Mine
namespace Mine
theorem IsP.updL {φ : Phi} {v : Value} {p : Int × Int} {l : Addr} {xs ys : List Value} (x : IsP φ v p) (hl : φ l = some (.lst xs)) : IsP (upd φ l (.lst ys)) v p := by
  obtain ⟨a, rfl, q⟩ := x
  exact ⟨a, rfl, upd_ne (fun e => by rw [e, hl] at q; cases q) q⟩
theorem at_mem_set {ys xs : List Value} {i j : Nat} {x : Value} (hP : (ys.set i x).Perm xs) (hi : i < ys.length) (hj : j < ys.length) (hij : i ≠ j) : at_ ys j ∈ xs := by
  have : at_ (ys.set i x) j ∈ ys.set i x := at_mem (by rw [List.length_set]; exact hj)
  rw [at_set hi, if_neg hij] at this
  exact hP.mem_iff.mp this
end Mine
namespace Mine
theorem if_ndec {p : Prop} [Decidable p] {X Y : Prop} (h1 : ¬ p → X) (h2 : p → Y) : if (!decide p) = true then X else Y := by
  by_cases h : p
  · rw [if_neg (by simpa using h)]; exact h2 h
  · rw [if_pos (by simpa using h)]; exact h1 h
theorem if_tt {X Y : Prop} (h : X) : if true = true then X else Y := h
theorem if_ff {X Y : Prop} (h : Y) : if false = true then X else Y := by
  rw [if_neg (by simp)]; exact h
theorem if_b {b : Bool} {X Y : Prop} (h1 : b = true → X) (h2 : b = false → Y) : if b = true then X else Y := by
  cases b
  · exact if_ff (h2 rfl)
  · exact h1 rfl
end Mine

namespace Mine

theorem sub_rit_reversed : isSubtype (.type "range_iterator") (.type "reversed") = pure false := by rw [isSubtype_type]; kernel_rfl
section
variable {prog : Program} {w : World} {A : Around} {E : Value → Shared → Prop} {s : Shared}
theorem range_rev {r : Addr} {n : Nat} {t u v : Tok} {Q : Value → Shared → Prop} (hn : n ≤ 1000000) (hr : IsRange s.heap r 0 n 1 t u v)
    (h : Q (.ref s.heap.objs.size) { s with heap := s.heap.push { cls := .type "range_iterator", data := .fields #[rawInt ((n : Int) - 1), rawInt n, rawInt (-1)] } }) :
    wpAny (model prog w) A (call (.builtin "range.__reversed__") [.ref r]) Q E s := by
  have hT : s.TypeIs (.ref r) "range" := ⟨_, hr, rfl⟩
  refine wpAny_call_entry PySem.F.slot_range_reversed hT PySem.F.entry_range_reversed ?_ (PySem.F.args_range_reversed_1 _)
  have hsz : Builtin.Range.rangeSize 0 n 1 = (n : Int) := by rw [rangeSize_one]; split <;> omega
  have hsm : (Builtin.Range.rangeFitsLong 0 && Builtin.Range.rangeFitsLong n && Builtin.Range.rangeFitsLong 1 && Builtin.Range.rangeFitsLong (-1) && Builtin.Range.rangeFitsLong (0 - 1) && Builtin.Range.rangeFitsLong (Builtin.Range.rangeSize 0 n 1)) = true := by
    rw [hsz]
    simp only [Builtin.Range.rangeFitsLong, Bool.and_eq_true, decide_eq_true_eq]
    omega
  unfold Builtin.«range.__reversed__»
  refine wpAny_bind (wpAny_of_eq (a := Value.ref r) (by first | rfl | kernel_rfl) ?_)
  refine wpAny_bind (wpAny_mono (Q := fun x s' => x = ((0 : Int), (n : Int), (1 : Int)) ∧ s' = s) (E := fun _ _ => False) ?_ (fun x s' hx => ?_) fun _ _ e => e.elim)
  · unfold Builtin.Range.rangeFields
    refine wpAny_bind (wpAny_field hr rfl (x := .int 0 t) rfl ?_)
    refine wpAny_bind (wpAny_of_eq (a := some (0 : Int)) (by rfl) ?_)
    refine wpAny_bind (wpAny_field hr rfl (x := .int n u) rfl ?_)
    refine wpAny_bind (wpAny_of_eq (a := some (n : Int)) (by rfl) ?_)
    refine wpAny_bind (wpAny_field hr rfl (x := .int 1 v) rfl ?_)
    refine wpAny_bind (wpAny_of_eq (a := some (1 : Int)) (by rfl) ?_)
    exact wpAny_pure ⟨rfl, rfl⟩
  · obtain ⟨rfl, rfl⟩ := hx
    dsimp only
    simp only [hsm, Bool.not_true, Bool.false_eq_true, if_false, if_true]
    refine wpAny_bind (wpAny_newObj_type (wpAny_pure ⟨_, rfl, ?_⟩))
    rw [hsz, show (0 : Int) + ((n : Int) - 1) * 1 = (n : Int) - 1 by omega]
    exact h
theorem newClass_rev (a : Value) : Builtin.SmallTypes.newClass "reversed" ⟨[.type "reversed", a], []⟩ = pure (.type "reversed", [a]) := newClass_reversed a
theorem code_rev {r : Addr} {n : Nat} {t u v : Tok} {Q₁ : Value → Shared → Prop} (hn : n ≤ 1000000) (hr : IsRange s.heap r 0 n 1 t u v)
    (h : Q₁ (.ref s.heap.objs.size) { s with heap := s.heap.push { cls := .type "range_iterator", data := .fields #[rawInt ((n : Int) - 1), rawInt n, rawInt (-1)] } }) :
    codeAny (model prog w) A (.call (.builtin "reversed.__new__") ⟨[.type "reversed", .ref r], []⟩) (wants Q₁ E) s := by
  have hT : s.TypeIs (.ref r) "range" := ⟨_, hr, rfl⟩
  refine codeAny_of_tree ?_
  show wpAny _ A.in1 (do checkBuiltinCall "reversed.__new__" ⟨[.type "reversed", .ref r], []⟩; again (.builtin "reversed.__new__" ⟨[.type "reversed", .ref r], []⟩)) _ _ s
  refine wpAny_bind (wpAny_of_eq (PySem.F.newCall_reversed_1 _) (wpAny_pure ⟨plainId_quiet PySem.F.plain_reversed_new _, codeAny_builtin PySem.F.entry_reversed_new ?_⟩))
  rw [Around.under_plainId PySem.F.plain_reversed_new _]
  unfold Builtin.«reversed.__new__»
  refine wpAny_bind (wpAny_of_eq (newClass_rev _) ?_)
  try dsimp only
  refine wpAny_bind (wpAny_of_eq (a := ()) (by first | rfl | kernel_rfl) ?_)
  refine wpAny_bind (wpAny_of_eq (a := ()) (by first | rfl | kernel_rfl) ?_)
  try dsimp only
  refine wpAny_bind (wpAny_specialOf hT PySem.F.slot_range_reversed.lookup ?_)
  try dsimp only
  refine wpAny_bind (wpAny_of_eq (PySem.F.slot_range_reversed.bind _) ?_)
  try dsimp only
  rw [if_neg (show ¬ ((Value.builtin "range.__reversed__" == Value.none) = true) from Bool.false_ne_true)]
  refine wpAny_bind (wpAny_rule ?_)
  refine wpAny_bind (m := runValue (.call (.builtin "range.__reversed__") ⟨[.ref r], []⟩)) (show wpAny _ _ (call (.builtin "range.__reversed__") [.ref r]) _ _ _ from range_rev hn hr ?_)
  first
  | exact wpAny_pure h
  | exact wpAny_bind (wpAny_pure (wpAny_pure h))
theorem call_rev {r : Addr} {n : Nat} {t u v : Tok} {Q : Value → Shared → Prop} (hn : n ≤ 1000000) (hr : IsRange s.heap r 0 n 1 t u v)
    (h : Q (.ref s.heap.objs.size) { s with heap := s.heap.push { cls := .type "range_iterator", data := .fields #[rawInt ((n : Int) - 1), rawInt n, rawInt (-1)] } }) :
    wpAny (model prog w) A (call (.type "reversed") [.ref r]) Q E s := by
  refine callType_other (U := "range_iterator") (Q₁ := fun obj s₁ => obj = .ref s.heap.objs.size ∧ s₁ = { s with heap := s.heap.push { cls := .type "range_iterator", data := .fields #[rawInt ((n : Int) - 1), rawInt n, rawInt (-1)] } }) (by decide +kernel)
    PySem.F.create_reversed ⟨_, _, PySem.F.mro_reversed⟩ PySem.F.made_reversed sub_rit_reversed (PySem.F.typeCall_reversed_1 _) (code_rev hn hr ⟨rfl, rfl⟩) ?_
  rintro obj s₁ ⟨rfl, rfl⟩
  exact ⟨⟨_, Heap.get?_push_size _ rfl, rfl⟩, h⟩
end

section
variable {C : Cx} {d : Nat} {env : Env} {m : Frm} {φ : Phi} {Q : Value → Frm → Phi → Prop} {L : Addr}
theorem V_range {n : Nat} (h : ∀ a, φ a = none → Q (.ref a) m (upd φ a (.rng 0 (n : Int) 1))) : CallV C d L (.type "range") [.int (n : Int) 0] Q m φ := CallV_range h
theorem V_rev {r : Addr} {n : Nat} (hr : φ r = some (.rng 0 (n : Int) 1)) (hn : n ≤ 1000000) (h : ∀ a, φ a = none → Q (.ref a) m (upd φ a (.rit ((n : Int) - 1) n (-1)))) : CallV C d L (.type "reversed") [.ref r] Q m φ := fun vs e => by
  obtain ⟨v, rfl, e'⟩ := ex1 e
  rw [er_ref e']
  refine .raw fun ρ A s ro F => ?_
  obtain ⟨t, u, w, hr'⟩ := F.sat hr
  refine call_rev hn hr' ?_
  obtain ⟨n0, _, F'⟩ := F.push (x := .rit ((n : Int) - 1) n (-1)) (o := { cls := .type "range_iterator", data := .fields #[rawInt ((n : Int) - 1), rawInt n, rawInt (-1)] }) (tk := s.toks) (Heap.get?_push_size _ rfl)
  exact ⟨m, _, F', h _ n0⟩
theorem FS.toR {ρ : Phi} {s : Shared} (F : FS C L m φ ρ s) {a x} (h : φ a = some x) : ρ a = Option.none ∧ FS C L m (del φ a) (upd ρ a x) s := by
  have ne := F.ne h
  have e1 : upd φ L (.ns m) a = some x := upd_ne ne h
  have n1 := F.ap.right e1
  have eq : ∀ b, b ≠ a → upd (del φ a) L (.ns m) b = upd φ L (.ns m) b := fun b hb => by
    unfold upd del
    by_cases hL : b = L <;> simp [hL, hb]
  have ea : upd (del φ a) L (.ns m) a = Option.none := upd_ne ne (del_same ..)
  refine ⟨n1, ?_, fun b => ?_, ⟨fun b y e => ?_, F.st.stays, F.st.gens, F.st.os⟩⟩
  · unfold del; rw [if_neg (Ne.symm ne)]; exact F.none
  · by_cases hb : b = a
    · subst hb; exact .inl ea
    · exact (F.ap b).imp (fun z => (eq b hb).trans z) fun z => upd_ne hb z
  · refine F.st.sat b y ?_
    unfold join at e ⊢
    by_cases hb : b = a
    · subst hb
      rw [ea] at e
      have e : upd ρ b x b = some y := e
      rw [upd_same] at e
      rw [e1]; exact e
    · rw [eq b hb] at e
      rwa [show upd ρ a x b = ρ b from if_neg hb] at e
/-- a for over an iterator of a range -/
theorem S_ForIt {target iter : Expr} {body : List Stmt} {pos} {Q : Flow → Frm → Phi → Prop}
    (h : E C d env iter (fun v m φ => ∃ it a c xs, ∃ I : Nat → Frm → Phi → Prop, v = .ref it ∧ φ it = some (.rit a (xs.length : Nat) c) ∧ xs = (List.range xs.length).map (fun (i : Nat) => Value.int (a + (i : Int) * c) 0) ∧
      (∀ it v, letOwnedTupleGo target it v = pure ()) ∧ I 0 m (del φ it) ∧
      (∀ k v m φ, xs[k]? = some v → I k m φ → Ag C d env target v (Ss C d env body (loopK (I (k + 1)) Q)) m φ) ∧
      (∀ m φ, I xs.length m φ → Q .next m φ)) m φ)
    (hs : ∀ x, foldedSetIterable iter env x = pure x := by intro _; rfl) : S C d env (.For target iter body [] pos) Q m φ := .raw fun ρ A s ro F => by
  refine wpAny_For (h.then ro F fun v m' φ' s' F' q => ?_) hs
  obtain ⟨it, a, c, xs, I, e, hit, hx, ht, h0, turn, fin⟩ := q
  rw [er_ref e]
  refine wpAny_pyIter_rangeiter (F'.sat hit) ?_
  obtain ⟨n1, F2⟩ := F'.toR hit
  have F3 : FS C env.locals m' (del φ' it) (upd ρ it ((It.range a c).ao xs 0)) s' := by
    have : (It.range a c).ao xs 0 = .rit a (xs.length : Nat) c := by
      show AO.rit (a + ((0 : Nat) : Int) * c) ((xs.length : Int) - ((0 : Nat) : Int)) c = _
      simp
    rw [this]; exact F2
  refine codeAny_mono (code_for (κ := .range a c) (xs := xs) I (.inl ht) (fun _ _ _ _ => hx) turn fin ro n1 0 m' _ s' (Nat.zero_le _) h0 F3) fun r s3 ⟨f, m3, φ3, e, F3, q3⟩ => ?_
  subst e
  exact ⟨m3, φ3, F3, q3⟩
end
end Mine
namespace Mine
theorem Ct.weak {C : Cx} {d : Nat} {φ : Phi} {f as} {P P' : Value → Phi → Prop} (h : Ct C d f as P φ) (k : ∀ v ψ, P v ψ → ∃ χ, Le χ ψ ∧ P' v χ) : Ct C d f as P' φ := fun vs e => (h vs e).forget fun v ψ => k _ _
theorem Le.upd {φ ψ : Phi} {a x} (h : Le φ ψ) : Le (Mine.upd φ a x) (Mine.upd ψ a x) := fun b y e => by
  unfold Mine.upd at e ⊢
  by_cases hb : b = a
  · simp only [hb, if_true] at e ⊢; exact e
  · rw [if_neg hb] at e ⊢; exact h b y e
theorem Le.del {φ ψ : Phi} {a : Addr} (h : Le φ ψ) (ha : φ a = Option.none) : Le φ (Mine.del ψ a) := fun b y e => by
  unfold Mine.del
  rw [if_neg (fun q => by rw [q, ha] at e; cases e)]
  exact h b y e
end Mine

namespace Mine

section
variable {C : Cx} {d : Nat} {L : Addr} {m : Frm} {φ ρ : Phi} {s : Shared}
theorem join_comm {φ ρ : Phi} (h : Apart φ ρ) : join φ ρ = join ρ φ := by
  funext a
  unfold join
  rcases h a with e | e
  · rw [e]; cases ρ a <;> rfl
  · rw [e]; cases φ a <;> rfl
/-- two frames change their places -/
theorem FS.swap {a : Addr} {mc : Frm} (F : FS C L m φ (upd ρ a (.ns mc)) s) (hL : ρ L = Option.none) (ha : ρ a = Option.none) : FS C a mc φ (upd ρ L (.ns m)) s := by
  have e0 := F.left_none (upd_same ρ a (.ns mc))
  have ne : a ≠ L := fun q => by rw [q, upd_same] at e0; cases e0
  have ea : φ a = Option.none := by unfold upd at e0; rwa [if_neg ne] at e0
  have ej : join (upd φ a (.ns mc)) (upd ρ L (.ns m)) = join (upd φ L (.ns m)) (upd ρ a (.ns mc)) := by
    funext b
    by_cases hb : b = a
    · subst hb
      have x1 : join (upd φ b (.ns mc)) (upd ρ L (.ns m)) b = some (.ns mc) := join_left (upd_same ..)
      have x2 : join (upd φ L (.ns m)) (upd ρ b (.ns mc)) b = some (.ns mc) := by unfold join; rw [e0, upd_same]
      rw [x1, x2]
    · by_cases hc : b = L
      · subst hc
        have x1 : join (upd φ a (.ns mc)) (upd ρ b (.ns m)) b = some (.ns m) := by unfold join; rw [show upd φ a (.ns mc) b = Option.none from upd_ne (Ne.symm ne) F.none, upd_same]
        have x2 : join (upd φ b (.ns m)) (upd ρ a (.ns mc)) b = some (.ns m) := join_left (upd_same ..)
        rw [x1, x2]
      · unfold join upd; simp only [hb, hc, if_false]
  refine ⟨ea, fun b => ?_, ej ▸ F.st⟩
  by_cases hb : b = a
  · subst hb; exact .inr (upd_ne ne ha)
  · by_cases hc : b = L
    · subst hc; exact .inl (upd_ne (Ne.symm ne) F.none)
    · have := F.ap b
      unfold upd at this ⊢
      simpa only [hb, hc, if_false] using this
theorem FS.toL {a x} (F : FS C L m φ (upd ρ a x) s) (hn : ρ a = Option.none) : φ a = Option.none ∧ a ≠ L ∧ FS C L m (upd φ a x) ρ s := by
  have e0 := F.left_none (upd_same ρ a x)
  have ne : a ≠ L := fun q => by rw [q, upd_same] at e0; cases e0
  have ea : φ a = Option.none := by unfold upd at e0; rwa [if_neg ne] at e0
  refine ⟨ea, ne, upd_ne (Ne.symm ne) F.none, fun b => ?_, ?_⟩
  · by_cases hb : b = a
    · subst hb; exact .inr hn
    · have := F.ap b
      rw [show upd ρ a x b = ρ b from if_neg hb] at this
      refine this.imp (fun z => ?_) id
      rw [upd_comm ne]
      exact upd_ne hb z
  · have ej : join (upd (upd φ a x) L (.ns m)) ρ = join (upd φ L (.ns m)) (upd ρ a x) := by
      rw [upd_comm ne, join_upd, ← join_updR e0]
    exact ej ▸ F.st
end

/-- the tests of a comprehension's clause -/
def Tst (C : Cx) (d : Nat) (env : Env) : List Expr → (Bool → Frm → Phi → Prop) → Frm → Phi → Prop
  | [], Q, m, φ => Q true m φ
  | [c], Q, m, φ => T C d env c Q m φ
  | _, _, _, _ => False

section
variable {C : Cx} {d : Nat} {A : Around} {E₀ : Value → Shared → Prop}
theorem Tst.then {env : Env} {ifs : List Expr} {Q : Bool → Frm → Phi → Prop} {m : Frm} {φ ρ : Phi} {s : Shared} {Q' : Bool → Shared → Prop} (h : Tst C d env ifs Q m φ) (ro : Room d A) (F : FS C env.locals m φ ρ s)
    (k : ∀ b m' φ' s', FS C env.locals m' φ' ρ s' → Q b m' φ' → Q' b s') :
    wpAny (model C.prog C.w) A (forIn ifs true fun c r => if r = true then do let ok ← isTrue c env (eval c env); pure (ForInStep.yield ok) else pure (ForInStep.yield r)) Q' E₀ s := by
  match ifs, h with
  | [], h => exact wpAny_tests_nil (k _ _ _ _ F h)
  | [c], h => exact wpAny_tests_one (B.then h ro F k)

/-- the frame of a comprehension -/
def cenv (scope : Scope) (env : Env) (Cl : Addr) (cl : List (Str × Addr)) : Env := compEnvC scope (cellsFrom (Cl + 1) scope.names cl) Cl env

/-- what a comprehension's turns bear -/
structure CompJ (C : Cx) (d : Nat) (ce : Env) (target elt : Expr) (ifs : List Expr) (κ : It) (xs : List Value) (J : Nat → List Value → Frm → Phi → Prop) : Prop where
  ok : ∀ k ys mc φ, J k ys mc φ → κ.ok xs φ
  turn : ∀ k v ys mc φ, xs[k]? = some v → J k ys mc φ → Ag C d ce target v (Tst C d ce ifs (fun ok mc φ => if ok = true then E C d ce elt (fun y mc φ => J (k + 1) (ys ++ [y]) mc φ) mc φ else J (k + 1) ys mc φ)) mc φ

theorem code_comp {target elt iter : Expr} {ifs : List Expr} {scope : Scope} {pos : Pos} {ce : Env} {κ : It} {xs : List Value} {J : Nat → List Value → Frm → Phi → Prop} (H : CompJ C d ce target elt ifs κ xs J)
    (ht : ∀ it v, letOwnedTupleGo target it v = pure ()) (hx : xs.length ≤ 10000) (ro : Room d A) {it D : Addr} {ρ : Phi} (hi : ρ it = none) (hD : ρ D = none) (hne : it ≠ D) {R : Result → Shared → Prop}
    (fin : ∀ ys mc φ s, J xs.length ys mc φ → FS C ce.locals mc φ (upd ρ D (.lst ys)) s → R (.ok .next) s) :
    ∀ (mc : Frm) (φ : Phi) (s : Shared), J 0 [] mc φ → FS C ce.locals mc φ (upd (upd ρ D (.lst [])) it (κ.ao xs 0)) s →
      codeAny (model C.prog C.w) A (.compLoop (.ListComp elt [⟨target, iter, ifs, 0⟩] scope pos) 0 (.ref it) (.ref D) ce) R s := by
  intro mc φ s h0 F
  refine codeAny_compLoop_tests (fun n s => ∃ k ys mc φ, k ≤ xs.length ∧ ys.length ≤ k ∧ n = xs.length - k ∧ J k ys mc φ ∧ FS C ce.locals mc φ (upd (upd ρ D (.lst ys)) it (κ.ao xs k)) s) (fun n s hI => ?_) xs.length
    ⟨0, [], mc, φ, Nat.zero_le _, Nat.le_refl _, rfl, h0, F⟩ (fun v => ht _ v)
  obtain ⟨k, ys, mc, φ, hk, hy, rfl, hJ, F⟩ := hI
  by_cases he : k = xs.length
  · subst he
    exact next_end ro.1 F (upd_ne hne hi) (H.ok _ _ _ _ hJ) fun s' F' => fin ys mc φ s' hJ F'
  · have hlt : k < xs.length := by omega
    refine next_item F (H.ok _ _ _ _ hJ) (List.getElem?_eq_getElem hlt) fun u s' eu F' => ?_
    refine (H.turn k _ ys mc φ (List.getElem?_eq_getElem hlt) hJ u eu).then ro F' fun _ m2 φ2 s2 F2 q2 => ?_
    refine q2.then ro F2 fun ok m3 φ3 s3 F3 q3 => ?_
    cases ok with
    | false =>
      rw [if_neg (by simp)] at q3 ⊢
      exact ⟨_, by omega, k + 1, ys, m3, φ3, hlt, by omega, rfl, q3, F3⟩
    | true =>
      rw [if_pos rfl] at q3 ⊢
      refine B.then q3 ro F3 fun y m4 φ4 s4 F4 q4 => ?_
      -- the item is appended
      have F5 : FS C ce.locals m4 φ4 (upd (upd ρ it (κ.ao xs (k + 1))) D (.lst ys)) s4 := by rw [upd_comm hne]; exact F4
      obtain ⟨items, n, hl, r, sz⟩ := F5.satR
      have sz' : items.size = ys.length := arr_er_size r
      refine call_meets PySem.F.slot_list_append ⟨_, hl, rfl⟩ PySem.F.entry_list_append (PySem.F.args_list_append_2 _ _) (list_append D items n y (sz' ▸ sz)) ⟨hl, ?_⟩
      refine ⟨_, by omega, k + 1, ys ++ [er y], m4, φ4, hlt, by rw [List.length_append, List.length_singleton]; omega, rfl, q4, ?_⟩
      rw [← upd_comm hne]
      exact F5.setR (tk := s4.toks) (y := .lst (ys ++ [er y])) (fun b o hb e => (Heap.get?_update_other _ _ (Ne.symm hb)).trans e)
        ⟨_, _, IsL.update hl _, by rw [Array.toList_push, List.map_append, r]; rfl, by rw [List.length_append, List.length_singleton, sizeLine_eq]; omega⟩
end

section
variable {C : Cx} {d : Nat} {env : Env} {m : Frm} {φ : Phi}
/-- the common road of a comprehension -/
theorem comp_road {target elt iter : Expr} {ifs : List Expr} {scope : Scope} {pos : Pos} {cl : List (Str × Addr)} {use : Option (Value → Sem Unit)} {Q : Value → Shared → Prop} {ρ : Phi} {A : Around} {s : Shared} (ro : Room d A) (F : FS C env.locals m φ ρ s)
    (hclos : closureFor scope env = pure cl) (hk : scope.kind = .function) (hnames : ∀ x ∈ scope.names, x.2 = .local → scope.names.lookup x.1 = some .local)
    (ht : ∀ it v, letOwnedTupleGo target it v = pure ()) (hs : ∀ x, foldedSetIterable iter env x = pure x)
    (h : E C d env iter (fun v m φ => ∃ κ xs, κ.from xs v φ ∧ xs.length ≤ 10000 ∧ ∀ Cl, (∀ a, Cl ≤ a → φ a = none) → ∃ J, CompJ C d (cenv scope env Cl cl) target elt ifs κ xs J ∧ J 0 [] (fun _ => none) (cellsPhi (Cl + 1) scope.names φ) ∧
      ∀ ys mc φ' D s', J xs.length ys mc φ' → φ' D = none → ρ Cl = none → FS C env.locals m (upd φ' D (.lst ys)) (upd ρ Cl (.ns mc)) s' →
        compPost (model C.prog C.w) A (fun _ _ => False) use Q (.ref D) Cl (.ok .next) s') m φ) :
    wpAny (model C.prog C.w) A (comprehension (.ListComp elt [⟨target, iter, ifs, 0⟩] scope pos) scope env iter.pos (newList []) false (eval iter env) use) Q (fun _ _ => False) s := by
  refine wpAny_comprehension_free (g := ⟨target, iter, ifs, 0⟩) (gs := []) rfl hs hclos hk hnames (B.then h ro F fun v m1 φ1 s1 F1 q1 => ?_)
  obtain ⟨κ, xs, hf, hx, q1⟩ := q1
  refine iter_of F1 hf rfl fun it s2 hi F2 => ?_
  refine wpAny_newList ?_ (Nat.zero_le _)
  have fresh2 : s2.heap.get? s2.heap.objs.size = none := Heap.get?_none_of_le (Nat.le_refl _)
  obtain ⟨hD, F3⟩ := F2.allocR (tk := s2.toks) (x := .lst []) (h' := s2.heap.push { cls := .type "list", data := .seq ([] : List Value).toArray }) (fun _ _ e => Heap.get?_push_of_some _ e) fresh2 ⟨#[], 0, Heap.get?_push_size _ rfl, rfl, Nat.zero_le _⟩
  have hDi : s2.heap.objs.size ≠ it := fun q => by rw [q, upd_same] at hD; cases hD
  generalize hh3 : s2.heap.push { cls := .type "list", data := .seq ([] : List Value).toArray } = H3 at F3 ⊢
  generalize hDa : s2.heap.objs.size = D at F3 hD hDi ⊢
  have hρD : ρ D = none := by rwa [show upd ρ it (κ.ao xs 0) D = ρ D from if_neg hDi] at hD
  refine newEnv_any fun ce hce => ?_
  have fresh3 : H3.get? H3.objs.size = none := Heap.get?_none_of_le (Nat.le_refl _)
  obtain ⟨hC, F4⟩ := F3.allocR (tk := s2.toks) (x := .ns (fun _ => none)) (a := H3.objs.size) (h' := H3.push { cls := .type "dict", data := .dict #[] }) (fun _ _ e => Heap.get?_push_of_some _ e) fresh3 ⟨fun _ => none, Heap.Ns.new .., fun _ => rfl⟩
  have hfr : ∀ a, H3.objs.size ≤ a → φ1 a = none := fun a ha => by
    have := (F3.st.fresh (a := a) (Heap.get?_none_of_le ha)).1
    have := (join_none this).1
    unfold upd at this
    by_cases hL : a = env.locals
    · subst hL; exact F3.none
    · rwa [if_neg hL] at this
  have hρL : upd (upd ρ it (κ.ao xs 0)) D (.lst []) env.locals = none := (F3.ap env.locals).resolve_left fun q => by rw [upd_same] at q; cases q
  have hLD : env.locals ≠ D := fun q => by rw [← q, upd_same] at hρL; cases hρL
  have hLi : env.locals ≠ it := fun q => by
    rw [show upd (upd ρ it (κ.ao xs 0)) D (.lst []) env.locals = upd ρ it (κ.ao xs 0) env.locals from if_neg hLD, ← q, upd_same] at hρL; cases hρL
  have hρL' : ρ env.locals = none := by
    rwa [show upd (upd ρ it (κ.ao xs 0)) D (.lst []) env.locals = upd ρ it (κ.ao xs 0) env.locals from if_neg hLD, show upd ρ it (κ.ao xs 0) env.locals = ρ env.locals from if_neg hLi] at hρL
  have F5 := F4.swap hρL hC
  have F6 := F5.cells scope.names _ φ1 s2.toks F5
  have hsz : (H3.push { cls := .type "dict", data := .dict #[] }).objs.size = H3.objs.size + 1 := Heap.size_push ..
  rw [show (({ s2 with heap := H3, toks := s2.toks } : Shared).heap.push { cls := .type "dict", data := .dict #[] }).objs.size = H3.objs.size + 1 from Heap.size_push ..] at F6
  generalize hCl : H3.objs.size = Cl at *
  have hlc : ce.locals = Cl := by rw [hce]; rfl
  have hcC : Cl ≠ D := fun q => by rw [q, upd_same] at hC; cases hC
  have hci : Cl ≠ it := fun q => by rw [show upd (upd ρ it (κ.ao xs 0)) D (.lst []) Cl = upd ρ it (κ.ao xs 0) Cl from if_neg hcC, q, upd_same] at hC; cases hC
  have hρC : ρ Cl = none := by
    rwa [show upd (upd ρ it (κ.ao xs 0)) D (.lst []) Cl = upd ρ it (κ.ao xs 0) Cl from if_neg hcC, show upd ρ it (κ.ao xs 0) Cl = ρ Cl from if_neg hci] at hC
  obtain ⟨J, HJ, h0, fin⟩ := q1 Cl hfr
  rw [List.forIn_nil]
  refine wpAny_pure ?_
  have hcenv : ({ ce with scope := relabel scope env } : Env) = cenv scope env Cl cl := by
    rw [hce]; rfl
  rw [hcenv, hlc]
  have hcl : (cenv scope env Cl cl).locals = Cl := rfl
  -- the hidden part, in the order that the loop wants
  have eρ : upd (upd (upd ρ it (κ.ao xs 0)) D (.lst [])) env.locals (.ns m1) = upd (upd (upd ρ env.locals (.ns m1)) D (.lst [])) it (κ.ao xs 0) := by
    rw [upd_comm (φ := upd ρ it (κ.ao xs 0)) (Ne.symm hLD), upd_comm (φ := ρ) (Ne.symm hLi), upd_comm (φ := upd ρ env.locals (.ns m1)) (Ne.symm hDi)]
  rw [eρ] at F6
  have loop := code_comp (iter := iter) (scope := scope) (pos := pos) HJ ht hx ro (ρ := upd ρ env.locals (.ns m1)) (upd_ne (Ne.symm hLi) hi) (upd_ne (Ne.symm hLD) hρD) (Ne.symm hDi) (R := compPost (model C.prog C.w) A (fun _ _ => False) use Q (.ref D) Cl)
    (fun ys mc φ' s' hJ F' => by
      rw [hcl] at F'
      rw [upd_comm (φ := ρ) hLD] at F'
      have F7 := F'.swap (ρ := upd ρ D (.lst ys)) (upd_ne hcC hρC) (upd_ne hLD hρL')
      rw [upd_comm (φ := ρ) (Ne.symm hcC)] at F7
      obtain ⟨n1, _, F8⟩ := F7.toL (upd_ne (Ne.symm hcC) hρD)
      exact fin ys mc φ' D s' hJ n1 hρC F8) (fun _ => none) _ _ h0 (hcl ▸ F6)
  refine codeAny_compStart_list loop ?_
  cases κ with
  | list l => exact wpAny_pyIter_listiter F6.satR loop
  | range a c => exact wpAny_pyIter_rangeiter F6.satR loop
end
end Mine
namespace Mine
section
variable {C : Cx} {d : Nat} {env : Env} {m : Frm} {φ : Phi}
theorem E_ListComp {target elt iter : Expr} {ifs : List Expr} {scope : Scope} {pos : Pos} {cl : List (Str × Addr)} {Q : Value → Frm → Phi → Prop}
    (hclos : closureFor scope env = pure cl) (hk : scope.kind = .function) (hnames : ∀ x ∈ scope.names, x.2 = .local → scope.names.lookup x.1 = some .local)
    (ht : ∀ it v, letOwnedTupleGo target it v = pure ()) (hs : ∀ x, foldedSetIterable iter env x = pure x)
    (h : E C d env iter (fun v m φ => ∃ κ xs, κ.from xs v φ ∧ xs.length ≤ 10000 ∧ ∀ Cl, (∀ a, Cl ≤ a → φ a = none) → ∃ J, CompJ C d (cenv scope env Cl cl) target elt ifs κ xs J ∧ J 0 [] (fun _ => none) (cellsPhi (Cl + 1) scope.names φ) ∧
      ∀ ys mc φ' D, J xs.length ys mc φ' → φ' D = none → Q (.ref D) m (upd φ' D (.lst ys))) m φ) :
    E C d env (.ListComp elt [⟨target, iter, ifs, 0⟩] scope pos) Q m φ := .raw fun ρ A s ro F => by
  rw [eval_ListComp]
  refine comp_road ro F hclos hk hnames ht hs (h.mono fun v m1 φ1 ⟨κ, xs, hf, hx, q⟩ => ⟨κ, xs, hf, hx, fun Cl hfr => ?_⟩)
  obtain ⟨J, HJ, h0, fin⟩ := q Cl hfr
  refine ⟨J, HJ, h0, fun ys mc φ' D s' hJ hD hC F' => ?_⟩
  obtain ⟨m', hn, _⟩ := F'.satR
  exact ⟨m', hn, fun h'' hs'' => ⟨m1, _, F'.dropR (tk := s'.toks) hC (fun b o hb e => (hs''.2 b hb).trans e), fin ys mc φ' D hJ hD⟩⟩
theorem S_AssignComp {y : Str} {py : Pos} {target elt iter : Expr} {ifs : List Expr} {scope : Scope} {pos spos : Pos} {cl : List (Str × Addr)} {Q : Flow → Frm → Phi → Prop} (K : Loc env y)
    (hsw : swapsWith (.ListComp elt [⟨target, iter, ifs, 0⟩] scope pos) (some (.Name y py)) spos.line env = pure true)
    (hclos : closureFor scope env = pure cl) (hk : scope.kind = .function) (hnames : ∀ x ∈ scope.names, x.2 = .local → scope.names.lookup x.1 = some .local)
    (ht : ∀ it v, letOwnedTupleGo target it v = pure ()) (hs : ∀ x, foldedSetIterable iter env x = pure x)
    (h : E C d env iter (fun v m φ => ∃ κ xs, κ.from xs v φ ∧ xs.length ≤ 10000 ∧ ∀ Cl, (∀ a, Cl ≤ a → φ a = none) → ∃ J, CompJ C d (cenv scope env Cl cl) target elt ifs κ xs J ∧ J 0 [] (fun _ => none) (cellsPhi (Cl + 1) scope.names φ) ∧
      ∀ ys mc φ' D, J xs.length ys mc φ' → φ' D = none → Q .next (fset m y (.ref D)) (upd φ' D (.lst ys))) m φ) :
    S C d env (.Assign [.Name y py] (.ListComp elt [⟨target, iter, ifs, 0⟩] scope pos) spos) Q m φ := .raw fun ρ A s ro F => by
  rw [exec_Assign_Name_used _ _ _ _ hsw]
  refine wpAny_bind (wpAny_standAt (wpAny_bind ?_))
  show wpAny _ A (do let _ ← comprehension (.ListComp elt [⟨target, iter, ifs, 0⟩] scope pos) scope env iter.pos (newList []) false (eval iter env) (some (assign (.Name y py) env))) _ _ s
  refine wpAny_bind (wpAny_mono (comp_road (use := some (assign (.Name y py) env)) (Q := fun _ s' => ∃ m' φ', FS C env.locals m' φ' ρ s' ∧ Q .next m' φ') ro F hclos hk hnames ht hs (h.mono fun v m1 φ1 ⟨κ, xs, hf, hx, q⟩ => ⟨κ, xs, hf, hx, fun Cl hfr => ?_⟩))
    (fun _ s' hq => wpAny_pure (wpAny_pure hq)) fun _ _ e => e)
  obtain ⟨J, HJ, h0, fin⟩ := q Cl hfr
  refine ⟨J, HJ, h0, fun ys mc φ' D s' hJ hD hC F' => ?_⟩
  have hA : Ag C d env (.Name y py) (.ref D) (fun m' φ'' => Q .next m' φ'') m1 (upd φ' D (.lst ys)) := G_local K (fin ys mc φ' D hJ hD)
  show wpAny _ A (assign (.Name y py) env (.ref D)) _ _ _
  refine (hA (.ref D) rfl).then ro F' fun _ m2 φ2 s2 F2 q2 => ?_
  obtain ⟨m', hn, _⟩ := F2.satR
  exact ⟨m', hn, fun h'' hs'' => ⟨m2, φ2, F2.dropR (tk := s2.toks) hC (fun b o hb e => (hs''.2 b hb).trans e), q2⟩⟩
end
end Mine

namespace Mine

/-! ways and paths -/
abbrev Gr := Nat → Nat → Option Int
abbrev Edg := Nat → Nat → Int → Prop
inductive Pth (e : Edg) : Nat → Nat → Int → Prop where
  | nil (a : Nat) : Pth e a a 0
  | cons {a b c : Nat} {l k : Int} : e a b l → Pth e b c k → Pth e a c (l + k)
def PosE (e : Edg) : Prop := ∀ a b l, e a b l → 0 < l
def SymE (e : Edg) : Prop := ∀ a b l, e a b l → e b a l
theorem Pth.nonneg {e : Edg} (h : PosE e) {a b k} (p : Pth e a b k) : 0 ≤ k := by
  induction p with
  | nil => exact Int.le_refl _
  | cons q _ ih => have := h _ _ _ q; omega
theorem Pth.trans {e : Edg} {a b c k k'} (p : Pth e a b k) (q : Pth e b c k') : Pth e a c (k + k') := by
  induction p with
  | nil => rw [Int.zero_add]; exact q
  | cons x _ ih => rw [Int.add_assoc]; exact .cons x (ih q)
theorem Pth.one {e : Edg} {a b l} (h : e a b l) : Pth e a b l := by
  have := Pth.cons h (.nil b)
  rwa [Int.add_zero] at this
theorem Pth.snoc {e : Edg} {a b c k l} (p : Pth e a b k) (h : e b c l) : Pth e a c (k + l) := p.trans (.one h)
theorem Pth.symm {e : Edg} (h : SymE e) {a b k} (p : Pth e a b k) : Pth e b a k := by
  induction p with
  | nil => exact .nil _
  | cons x _ ih => rw [Int.add_comm]; exact ih.snoc (h _ _ _ x)
theorem Pth.mono {e e' : Edg} (h : ∀ a b l, e a b l → Pth e' a b l) {a b k} (p : Pth e a b k) : Pth e' a b k := by
  induction p with
  | nil => exact .nil _
  | cons x _ ih => exact (h _ _ _ x).trans ih
/-- each edge may be walked at no more -/
theorem Pth.le {e e' : Edg} (h : ∀ a b l, e a b l → ∃ l', l' ≤ l ∧ Pth e' a b l') {a b k} (p : Pth e a b k) : ∃ k', k' ≤ k ∧ Pth e' a b k' := by
  induction p with
  | nil => exact ⟨0, Int.le_refl _, .nil _⟩
  | cons x _ ih =>
    obtain ⟨l', h1, p1⟩ := h _ _ _ x
    obtain ⟨k', h2, p2⟩ := ih
    exact ⟨l' + k', by omega, p1.trans p2⟩
def IsDist (e : Edg) (a b : Nat) : Option Int → Prop
  | none => ∀ k, ¬ Pth e a b k
  | some d => Pth e a b d ∧ ∀ k, Pth e a b k → d ≤ k
theorem IsDist.unique {e : Edg} {a b x y} (h : IsDist e a b x) (k : IsDist e a b y) : x = y := by
  cases x with
  | none =>
    cases y with
    | none => rfl
    | some d => exact absurd k.1 (h d)
  | some d =>
    cases y with
    | none => exact absurd h.1 (k d)
    | some d' =>
      have := h.2 _ k.1
      have := k.2 _ h.1
      rw [show d = d' by omega]
/-- the two say the same of each other's paths -/
theorem IsDist.of_le {e e' : Edg} (h : ∀ k a b, Pth e a b k → ∃ k', k' ≤ k ∧ Pth e' a b k') {a b o} (d : IsDist e a b o) (h2 : ∀ k, Pth e' a b k → ∃ k', k' ≤ k ∧ Pth e a b k') : IsDist e' a b o := by
  cases o with
  | none =>
    intro k p
    obtain ⟨k', _, q⟩ := h2 k p
    exact d k' q
  | some x =>
    obtain ⟨k', h1, q⟩ := h x a b d.1
    obtain ⟨k2, h3, q2⟩ := h2 k' q
    have := d.2 _ q2
    have e1 : k' = x := by omega
    subst e1
    refine ⟨q, fun k p => ?_⟩
    obtain ⟨k3, h4, q3⟩ := h2 k p
    have := d.2 _ q3
    omega

/-! a search -/
structure DInv (e : Edg) (start : Nat) (best : Nat → Option Int) (ks : List (Int × Int)) (v : Nat) (pend : Nat → Int → Prop) : Prop where
  settled : ∀ u d, best u = some d → Pth e start u d ∧ ∀ k, Pth e start u k → d ≤ k
  entries : ∀ p ∈ ks, ∃ u : Nat, u < 7 ∧ p.2 = (u : Int) ∧ Pth e start u p.1
  front : ∀ u d w l, best u = some d → e u w l → best w = none → (u = v ∧ pend w l) ∨ ∃ p ∈ ks, p.2 = (w : Int) ∧ p.1 ≤ d + l
  first : best start = none → ∃ p ∈ ks, p.2 = (start : Int) ∧ p.1 ≤ 0
theorem DInv.start {e : Edg} {start : Nat} (h : start < 7) : DInv e start (fun _ => none) [(0, (start : Int))] 0 (fun _ _ => False) :=
  ⟨fun _ _ h => (by cases h), fun p hp => (by rw [List.mem_singleton.mp hp]; exact ⟨start, h, rfl, .nil _⟩), fun _ _ _ _ h => (by cases h), fun _ => ⟨_, .head _, rfl, Int.le_refl _⟩⟩
theorem DInv.cross {e : Edg} {start : Nat} {best : Nat → Option Int} {ks : List (Int × Int)} {v0 : Nat} (pos : PosE e) (D : DInv e start best ks v0 (fun _ _ => False)) {u v : Nat} {k d : Int} (p : Pth e u v k) (hu : best u = some d) (hv : best v = none) : ∃ q ∈ ks, q.1 ≤ d + k := by
  induction p generalizing d with
  | nil => rw [hu] at hv; cases hv
  | @cons a b c l k x p ih =>
    have hk := p.nonneg pos
    cases hb : best b with
    | none =>
      rcases D.front _ _ _ _ hu x hb with ⟨_, f⟩ | ⟨q, hq, _, hle⟩
      · exact f.elim
      · exact ⟨q, hq, by omega⟩
    | some d' =>
      have := (D.settled _ _ hb).2 _ ((D.settled _ _ hu).1.snoc x)
      obtain ⟨q, hq, hle⟩ := ih hb hv
      exact ⟨q, hq, by omega⟩
theorem DInv.reach {e : Edg} {start : Nat} {best : Nat → Option Int} {ks : List (Int × Int)} {v0 : Nat} (pos : PosE e) (D : DInv e start best ks v0 (fun _ _ => False)) {v : Nat} {k : Int} (p : Pth e start v k) (hv : best v = none) : ∃ q ∈ ks, q.1 ≤ k := by
  cases hs : best start with
  | none =>
    obtain ⟨q, hq, _, hle⟩ := D.first hs
    have := p.nonneg pos
    exact ⟨q, hq, by omega⟩
  | some d =>
    have := (D.settled _ _ hs).2 _ (.nil _)
    obtain ⟨q, hq, hle⟩ := D.cross pos p hs hv
    exact ⟨q, hq, by omega⟩
theorem DInv.done {e : Edg} {start : Nat} {best : Nat → Option Int} {v0 : Nat} (pos : PosE e) (D : DInv e start best [] v0 (fun _ _ => False)) (v : Nat) : IsDist e start v (best v) := by
  cases hv : best v with
  | none =>
    intro k p
    obtain ⟨q, hq, _⟩ := D.reach pos p hv
    cases hq
  | some d => exact D.settled v d hv
theorem DInv.skip {e : Edg} {start : Nat} {best : Nat → Option Int} {ks ks' : List (Int × Int)} {v0 v : Nat} {p : Int × Int} (D : DInv e start best ks v0 (fun _ _ => False)) (hp : (p :: ks').Perm ks) (hv : p.2 = (v : Int)) (hb : best v ≠ none) :
    DInv e start best ks' v0 (fun _ _ => False) := by
  have mem : ∀ q, q ∈ ks' → q ∈ ks := fun q hq => hp.mem_iff.mp (.tail _ hq)
  have other : ∀ q ∈ ks, ∀ w : Nat, q.2 = (w : Int) → best w = none → q ∈ ks' := fun q hq w hw hbw => by
    rcases List.mem_cons.mp (hp.mem_iff.mpr hq) with e | h
    · subst e
      rw [hv] at hw
      have : v = w := by omega
      subst this
      exact absurd hbw hb
    · exact h
  refine ⟨D.settled, fun q hq => D.entries q (mem q hq), fun u d w l h1 h2 h3 => ?_, fun hs => ?_⟩
  · rcases D.front u d w l h1 h2 h3 with ⟨_, f⟩ | ⟨q, hq, h4, h5⟩
    · exact f.elim
    · exact .inr ⟨q, other q hq w h4 h3, h4, h5⟩
  · obtain ⟨q, hq, h4, h5⟩ := D.first hs
    exact ⟨q, other q hq start h4 hs, h4, h5⟩
def bset (best : Nat → Option Int) (v : Nat) (x : Option Int) : Nat → Option Int := fun u => if u = v then x else best u
theorem DInv.settle {e : Edg} {start : Nat} {best : Nat → Option Int} {ks ks' : List (Int × Int)} {v0 v : Nat} {p : Int × Int} (pos : PosE e) (D : DInv e start best ks v0 (fun _ _ => False)) (hp : (p :: ks').Perm ks) (hv : p.2 = (v : Int)) (hb : best v = none)
    (hmin : ∀ q ∈ ks, p.1 ≤ q.1) : DInv e start (bset best v (some p.1)) ks' v (fun w l => e v w l) := by
  have mem : ∀ q, q ∈ ks' → q ∈ ks := fun q hq => hp.mem_iff.mp (.tail _ hq)
  have hpk : p ∈ ks := hp.mem_iff.mp (.head _)
  have other : ∀ q ∈ ks, ∀ w : Nat, q.2 = (w : Int) → w ≠ v → q ∈ ks' := fun q hq w hw hne => by
    rcases List.mem_cons.mp (hp.mem_iff.mpr hq) with e | h
    · subst e
      rw [hv] at hw
      omega
    · exact h
  refine ⟨fun u d h => ?_, fun q hq => D.entries q (mem q hq), fun u d w l h1 h2 h3 => ?_, fun hs => ?_⟩
  · unfold bset at h
    by_cases hu : u = v
    · subst hu
      rw [if_pos rfl] at h
      cases h
      obtain ⟨u', _, h2, h3⟩ := D.entries p hpk
      have : u' = u := by omega
      subst this
      refine ⟨h3, fun k q => ?_⟩
      obtain ⟨q', hq', hle⟩ := D.reach pos q hb
      have := hmin q' hq'
      omega
    · rw [if_neg hu] at h
      exact D.settled u d h
  · unfold bset at h1 h3
    have hw : w ≠ v := fun e => by rw [if_pos e] at h3; cases h3
    rw [if_neg hw] at h3
    by_cases hu : u = v
    · subst hu; exact .inl ⟨rfl, h2⟩
    · rw [if_neg hu] at h1
      rcases D.front u d w l h1 h2 h3 with ⟨_, f⟩ | ⟨q, hq, h4, h5⟩
      · exact f.elim
      · exact .inr ⟨q, other q hq w h4 hw, h4, h5⟩
  · unfold bset at hs
    have hw : start ≠ v := fun e => by rw [if_pos e] at hs; cases hs
    rw [if_neg hw] at hs
    obtain ⟨q, hq, h4, h5⟩ := D.first hs
    exact ⟨q, other q hq start h4 hw, h4, h5⟩
theorem DInv.drop {e : Edg} {start : Nat} {best : Nat → Option Int} {ks : List (Int × Int)} {v w : Nat} {l : Int} {pend pend' : Nat → Int → Prop} (D : DInv e start best ks v pend) (hp : ∀ w' l', pend w' l' → (w' = w ∧ l' = l) ∨ pend' w' l') (hb : best w ≠ none) : DInv e start best ks v pend' :=
  ⟨D.settled, D.entries, fun u d w' l' h1 h2 h3 => by
    rcases D.front u d w' l' h1 h2 h3 with ⟨h, f⟩ | h
    · rcases hp w' l' f with ⟨rfl, rfl⟩ | f
      · exact absurd h3 hb
      · exact .inl ⟨h, f⟩
    · exact .inr h, D.first⟩
theorem DInv.push {e : Edg} {start : Nat} {best : Nat → Option Int} {ks ks' : List (Int × Int)} {v w : Nat} {l d : Int} {pend pend' : Nat → Int → Prop} (D : DInv e start best ks v pend) (hp : ∀ w' l', pend w' l' → (w' = w ∧ l' = l) ∨ pend' w' l') (hv : best v = some d) (he : e v w l) (hw : w < 7)
    (hk : ks'.Perm ((d + l, (w : Int)) :: ks)) : DInv e start best ks' v pend' := by
  have mem : ∀ q, q ∈ ks → q ∈ ks' := fun q hq => hk.mem_iff.mpr (.tail _ hq)
  refine ⟨D.settled, fun q hq => ?_, fun u d' w' l' h1 h2 h3 => ?_, fun hs => ?_⟩
  · rcases List.mem_cons.mp (hk.mem_iff.mp hq) with h | h
    · subst h; exact ⟨w, hw, rfl, (D.settled v d hv).1.snoc he⟩
    · exact D.entries q h
  · rcases D.front u d' w' l' h1 h2 h3 with ⟨h, f⟩ | ⟨q, hq, h4⟩
    · rcases hp w' l' f with ⟨rfl, rfl⟩ | f
      · subst h
        rw [hv] at h1
        cases h1
        exact .inr ⟨_, hk.mem_iff.mpr (.head _), rfl, Int.le_refl _⟩
      · exact .inl ⟨h, f⟩
    · exact .inr ⟨q, mem q hq, h4⟩
  · obtain ⟨q, hq, h4⟩ := D.first hs
    exact ⟨q, mem q hq, h4⟩
theorem DInv.turn {e : Edg} {start : Nat} {best : Nat → Option Int} {ks : List (Int × Int)} {v : Nat} {pend : Nat → Int → Prop} (D : DInv e start best ks v pend) (h : ∀ w l, ¬ pend w l) : DInv e start best ks 0 (fun _ _ => False) :=
  ⟨D.settled, D.entries, fun u d w l h1 h2 h3 => (D.front u d w l h1 h2 h3).elim (fun ⟨_, f⟩ => (h _ _ f).elim) .inr, D.first⟩

/-! all places in the middle -/
inductive WalkI (e : Edg) (M : Nat → Prop) : Nat → Nat → Int → Prop where
  | nil (a : Nat) : WalkI e M a a 0
  | one {a b : Nat} {l : Int} : e a b l → WalkI e M a b l
  | step {a b c : Nat} {l k : Int} : e a b l → M b → WalkI e M b c k → WalkI e M a c (l + k)
theorem WalkI.nonneg {e : Edg} {M} (h : PosE e) {a b k} (p : WalkI e M a b k) : 0 ≤ k := by
  induction p with
  | nil => exact Int.le_refl _
  | one q => have := h _ _ _ q; omega
  | step q _ _ ih => have := h _ _ _ q; omega
theorem WalkI.of_path {e : Edg} {M : Nat → Prop} (h : ∀ a b l, e a b l → M b) {a b k} (p : Pth e a b k) : WalkI e M a b k := by
  induction p with
  | nil => exact .nil _
  | cons q _ ih => exact .step q (h _ _ _ q) ih
theorem WalkI.cut {e : Edg} {M M' : Nat → Prop} {m : Nat} (pos : PosE e) (hM : ∀ x, M' x → M x ∨ x = m) {a b k} (p : WalkI e M' a b k) :
    (∃ k', k' ≤ k ∧ WalkI e M a b k') ∨ ∃ k1 k2, k1 + k2 ≤ k ∧ WalkI e M a m k1 ∧ WalkI e M m b k2 := by
  induction p with
  | nil a => exact .inl ⟨0, Int.le_refl _, .nil _⟩
  | one q => exact .inl ⟨_, Int.le_refl _, .one q⟩
  | @step a c b l k q hc _ ih =>
    rcases hM c hc with hc | rfl
    · rcases ih with ⟨k', h1, w⟩ | ⟨k1, k2, h1, w1, w2⟩
      · exact .inl ⟨l + k', by omega, .step q hc w⟩
      · exact .inr ⟨l + k1, k2, by omega, .step q hc w1, w2⟩
    · rcases ih with ⟨k', h1, w⟩ | ⟨k1, k2, h1, w1, w2⟩
      · exact .inr ⟨l, k', by omega, .one q, w⟩
      · have := w1.nonneg pos
        exact .inr ⟨l, k2, by omega, .one q, w2⟩
def oleI (x : Option Int) (k : Int) : Prop := ∃ d, x = some d ∧ d ≤ k
/-- what a table tells, with M in the middle -/
structure FInv (e : Edg) (S : List Nat) (M : Nat → Prop) (t : Gr) : Prop where
  sound : ∀ a b d, a ∈ S → b ∈ S → t a b = some d → Pth e a b d
  full : ∀ a b k, a ∈ S → b ∈ S → WalkI e M a b k → oleI (t a b) k
theorem FInv.done {e : Edg} {S : List Nat} {M : Nat → Prop} {t : Gr} (F : FInv e S M t) (h : ∀ a b l, e a b l → M b) {a b : Nat} (ha : a ∈ S) (hb : b ∈ S) : IsDist e a b (t a b) := by
  cases ht : t a b with
  | none =>
    intro k p
    obtain ⟨d, hd, _⟩ := F.full a b k ha hb (WalkI.of_path h p)
    rw [ht] at hd; cases hd
  | some d =>
    refine ⟨F.sound a b d ha hb ht, fun k p => ?_⟩
    obtain ⟨d', hd, hle⟩ := F.full a b k ha hb (WalkI.of_path h p)
    rw [ht] at hd; cases hd; exact hle
/-- while the place m is taken into the middle: t has come from t₀, and the pairs told by D are done -/
structure FMid (e : Edg) (S : List Nat) (M : Nat → Prop) (m : Nat) (t₀ t : Gr) (D : Nat → Nat → Prop) : Prop where
  sound : ∀ a b d, a ∈ S → b ∈ S → t a b = some d → Pth e a b d
  low : ∀ a b k, oleI (t₀ a b) k → oleI (t a b) k
  told : ∀ a b k1 k2, D a b → oleI (t₀ a m) k1 → oleI (t₀ m b) k2 → oleI (t a b) (k1 + k2)
theorem FMid.start {e : Edg} {S : List Nat} {M : Nat → Prop} {m : Nat} {t : Gr} (F : FInv e S M t) : FMid e S M m t t (fun _ _ => False) := ⟨F.sound, fun _ _ _ h => h, fun _ _ _ _ h => h.elim⟩
theorem FMid.done {e : Edg} {S : List Nat} {M M' : Nat → Prop} {m : Nat} {t₀ t : Gr} {D : Nat → Nat → Prop} (pos : PosE e) (F : FInv e S M t₀) (H : FMid e S M m t₀ t D) (hm : m ∈ S) (hM : ∀ x, M' x → M x ∨ x = m) (hD : ∀ a b, a ∈ S → b ∈ S → D a b) : FInv e S M' t :=
  ⟨H.sound, fun a b k ha hb w => by
    rcases WalkI.cut pos hM w with ⟨k', h1, w⟩ | ⟨k1, k2, h1, w1, w2⟩
    · obtain ⟨d, h2, h3⟩ := H.low a b k' (F.full a b k' ha hb w)
      exact ⟨d, h2, by omega⟩
    · obtain ⟨d, h2, h3⟩ := H.told a b k1 k2 (hD a b ha hb) (F.full a m k1 ha hm w1) (F.full m b k2 hm hb w2)
      exact ⟨d, h2, by omega⟩⟩
def tset (t : Gr) (a b : Nat) (x : Option Int) : Gr := fun i j => if i = a ∧ j = b then x else t i j
theorem FMid.none_left {e : Edg} {S : List Nat} {M : Nat → Prop} {m : Nat} {t₀ t : Gr} {D D' : Nat → Nat → Prop} {a : Nat} (H : FMid e S M m t₀ t D) (h : t a m = none) (hD : ∀ x y, D' x y → D x y ∨ x = a) : FMid e S M m t₀ t D' :=
  ⟨H.sound, H.low, fun x y k1 k2 hd h1 h2 => by
    rcases hD x y hd with hd | rfl
    · exact H.told x y k1 k2 hd h1 h2
    · obtain ⟨d, h3, _⟩ := H.low x m k1 h1
      rw [h] at h3; cases h3⟩
theorem FMid.none_right {e : Edg} {S : List Nat} {M : Nat → Prop} {m : Nat} {t₀ t : Gr} {D D' : Nat → Nat → Prop} {a b : Nat} (H : FMid e S M m t₀ t D) (h : t m b = none) (hD : ∀ x y, D' x y → D x y ∨ (x = a ∧ y = b)) : FMid e S M m t₀ t D' :=
  ⟨H.sound, H.low, fun x y k1 k2 hd h1 h2 => by
    rcases hD x y hd with hd | ⟨rfl, rfl⟩
    · exact H.told x y k1 k2 hd h1 h2
    · obtain ⟨d, h3, _⟩ := H.low m y k2 h2
      rw [h] at h3; cases h3⟩
theorem FMid.keep {e : Edg} {S : List Nat} {M : Nat → Prop} {m : Nat} {t₀ t : Gr} {D D' : Nat → Nat → Prop} {a b : Nat} {x y z : Int} (H : FMid e S M m t₀ t D) (h1 : t a m = some x) (h2 : t m b = some y) (h3 : t a b = some z) (hz : ¬ x + y < z) (hD : ∀ i j, D' i j → D i j ∨ (i = a ∧ j = b)) :
    FMid e S M m t₀ t D' :=
  ⟨H.sound, H.low, fun i j k1 k2 hd h4 h5 => by
    rcases hD i j hd with hd | ⟨rfl, rfl⟩
    · exact H.told i j k1 k2 hd h4 h5
    · obtain ⟨d1, h6, h7⟩ := H.low i m k1 h4
      obtain ⟨d2, h8, h9⟩ := H.low m j k2 h5
      rw [h1] at h6; rw [h2] at h8
      cases h6; cases h8
      exact ⟨z, h3, by omega⟩⟩
theorem FMid.put {e : Edg} {S : List Nat} {M : Nat → Prop} {m : Nat} {t₀ t : Gr} {D D' : Nat → Nat → Prop} {a b : Nat} {x y : Int} (H : FMid e S M m t₀ t D) (ha : a ∈ S) (hb : b ∈ S) (hm : m ∈ S) (h1 : t a m = some x) (h2 : t m b = some y) (h3 : t a b = none ∨ ∃ z, t a b = some z ∧ x + y < z)
    (hD : ∀ i j, D' i j → D i j ∨ (i = a ∧ j = b)) : FMid e S M m t₀ (tset t a b (some (x + y))) D' := by
  have low : ∀ i j k, oleI (t i j) k → oleI (tset t a b (some (x + y)) i j) k := fun i j k ⟨d, h4, h5⟩ => by
    unfold tset
    by_cases h : i = a ∧ j = b
    · rw [if_pos h]
      obtain ⟨rfl, rfl⟩ := h
      rcases h3 with h3 | ⟨z, h3, hz⟩
      · rw [h3] at h4; cases h4
      · rw [h3] at h4; cases h4
        exact ⟨_, rfl, by omega⟩
    · rw [if_neg h]; exact ⟨d, h4, h5⟩
  refine ⟨fun i j d hi hj ht => ?_, fun i j k h => low i j k (H.low i j k h), fun i j k1 k2 hd h4 h5 => ?_⟩
  · unfold tset at ht
    by_cases h : i = a ∧ j = b
    · rw [if_pos h] at ht
      obtain ⟨rfl, rfl⟩ := h
      cases ht
      exact (H.sound i m x hi hm h1).trans (H.sound m j y hm hj h2)
    · rw [if_neg h] at ht
      exact H.sound i j d hi hj ht
  · rcases hD i j hd with hd | ⟨rfl, rfl⟩
    · exact low i j _ (H.told i j k1 k2 hd h4 h5)
    · obtain ⟨d1, h6, h7⟩ := H.low i m k1 h4
      obtain ⟨d2, h8, h9⟩ := H.low m j k2 h5
      rw [h1] at h6; rw [h2] at h8
      cases h6; cases h8
      exact ⟨x + y, by unfold tset; rw [if_pos ⟨rfl, rfl⟩], by omega⟩
end Mine

namespace Mine

def EdW (w : Gr) (S : List Nat) : Edg := fun a b l => w a b = some l ∧ a ∈ S ∧ b ∈ S
structure Good (w : Gr) : Prop where
  sym : ∀ a b, w a b = w b a
  pos : ∀ a b l, w a b = some l → 0 < l
  diag : ∀ a, w a a = none
theorem Good.posE {w : Gr} (G : Good w) (S : List Nat) : PosE (EdW w S) := fun a b l h => G.pos a b l h.1
theorem Good.symE {w : Gr} (G : Good w) (S : List Nat) : SymE (EdW w S) := fun a b l h => ⟨by rw [G.sym]; exact h.1, h.2.2, h.2.1⟩
def AdjE (adj : Nat → List (Nat × Int)) : Edg := fun u x l => u < 7 ∧ (x, l) ∈ adj u

/-- one place is taken out of the ways -/
structure Contr (w : Gr) (left : List Nat) (v : Nat) (S' : List Nat) (w' : Gr) : Prop where
  good : Good w'
  sound : ∀ a b l, EdW w' S' a b l → Pth (EdW w left) a b l
  keep : ∀ a b l, w a b = some l → a ∈ S' → b ∈ S' → ∃ l', l' ≤ l ∧ w' a b = some l'
  short : ∀ a b x y, w a v = some x → w v b = some y → a ≠ b → a ∈ S' → b ∈ S' → ∃ k, k ≤ x + y ∧ Pth (EdW w' S') a b k
def via (w : Gr) (v x y : Nat) : Int := (w x v).getD 0 + (w v y).getD 0
def app (w : Gr) (v : Nat) (fl : List (Nat × Nat)) : Gr := fun x y => if (x, y) ∈ fl ∨ (y, x) ∈ fl then some (via w v x y) else w x y
theorem via_symm {w : Gr} (G : Good w) (v x y : Nat) : via w v x y = via w v y x := by
  unfold via; rw [G.sym x v, G.sym v y, Int.add_comm]
theorem app_nil (w : Gr) (v : Nat) : app w v [] = w := by
  funext x y; unfold app; rw [if_neg (by rintro (h | h) <;> cases h)]
theorem app_step {w : Gr} (G : Good w) {v : Nat} {fl : List (Nat × Nat)} {a b : Nat} :
    tset (tset (app w v fl) a b (some (via w v a b))) b a (some (via w v a b)) = app w v (fl ++ [(a, b)]) := by
  funext x y
  unfold tset
  by_cases h1 : x = b ∧ y = a
  · rw [if_pos h1]
    obtain ⟨rfl, rfl⟩ := h1
    unfold app
    rw [if_pos (.inr (List.mem_append_right _ (.head _))), via_symm G]
  · rw [if_neg h1]
    by_cases h2 : x = a ∧ y = b
    · rw [if_pos h2]
      obtain ⟨rfl, rfl⟩ := h2
      unfold app
      rw [if_pos (.inl (List.mem_append_right _ (.head _)))]
    · rw [if_neg h2]
      unfold app
      have e : ((x, y) ∈ fl ++ [(a, b)] ∨ (y, x) ∈ fl ++ [(a, b)]) ↔ ((x, y) ∈ fl ∨ (y, x) ∈ fl) := by
        constructor
        · rintro (h | h)
          · rcases List.mem_append.mp h with h | h
            · exact .inl h
            · have := List.mem_singleton.mp h; cases this; exact absurd ⟨rfl, rfl⟩ h2
          · rcases List.mem_append.mp h with h | h
            · exact .inr h
            · have := List.mem_singleton.mp h; cases this; exact absurd ⟨rfl, rfl⟩ h1
        · exact fun h => h.imp (List.mem_append_left _) (List.mem_append_left _)
      by_cases h3 : (x, y) ∈ fl ∨ (y, x) ∈ fl
      · rw [if_pos h3, if_pos (e.mpr h3)]
      · rw [if_neg h3, if_neg fun q => h3 (e.mp q)]
theorem Contr.of_app {w : Gr} {left S' : List Nat} {v : Nat} {fl : List (Nat × Nat)} (G : Good w) (hS : ∀ x, x ∈ S' ↔ x ∈ left ∧ x ≠ v) (hv : v ∈ left)
    (hF : ∀ a b, (a, b) ∈ fl → a ≠ b ∧ a ∈ S' ∧ b ∈ S' ∧ ∃ x y, w a v = some x ∧ w v b = some y ∧ ∀ k, Pth (EdW w S') a b k → x + y < k)
    (hC : ∀ a b x y, a ∈ S' → b ∈ S' → a < b → w a v = some x → w v b = some y → (a, b) ∈ fl ∨ ∃ k, k ≤ x + y ∧ Pth (EdW w S') a b k) : Contr w left v S' (app w v fl) := by
  -- a pair that is set
  have hP : ∀ a b, ((a, b) ∈ fl ∨ (b, a) ∈ fl) → a ≠ b ∧ a ∈ S' ∧ b ∈ S' ∧ ∃ x y, w a v = some x ∧ w v b = some y ∧ ∀ k, Pth (EdW w S') a b k → x + y < k := by
    rintro a b (h | h)
    · exact hF a b h
    · obtain ⟨h1, h2, h3, x, y, h4, h5, h6⟩ := hF b a h
      refine ⟨Ne.symm h1, h3, h2, y, x, by rw [G.sym]; exact h5, by rw [G.sym]; exact h4, fun k p => ?_⟩
      have := h6 k (p.symm (G.symE S'))
      omega
  have via_eq : ∀ a b x y, w a v = some x → w v b = some y → via w v a b = x + y := fun a b x y h1 h2 => by unfold via; rw [h1, h2]; rfl
  have keep : ∀ a b l, w a b = some l → a ∈ S' → b ∈ S' → ∃ l', l' ≤ l ∧ app w v fl a b = some l' := fun a b l h ha hb => by
    unfold app
    by_cases hp : (a, b) ∈ fl ∨ (b, a) ∈ fl
    · rw [if_pos hp]
      obtain ⟨_, _, _, x, y, h4, h5, h6⟩ := hP a b hp
      have := h6 l (.one ⟨h, ha, hb⟩)
      exact ⟨_, by rw [via_eq a b x y h4 h5]; omega, rfl⟩
    · rw [if_neg hp]; exact ⟨l, Int.le_refl _, h⟩
  have lift : ∀ a b k, Pth (EdW w S') a b k → ∃ k', k' ≤ k ∧ Pth (EdW (app w v fl) S') a b k' := fun a b k p => Pth.le (fun a b l ⟨h, ha, hb⟩ => by
    obtain ⟨l', h1, h2⟩ := keep a b l h ha hb
    exact ⟨l', h1, .one ⟨h2, ha, hb⟩⟩) p
  have good : Good (app w v fl) := by
    refine ⟨fun a b => ?_, fun a b l h => ?_, fun a => ?_⟩
    · unfold app
      by_cases hp : (a, b) ∈ fl ∨ (b, a) ∈ fl
      · rw [if_pos hp, if_pos hp.symm, via_symm G]
      · rw [if_neg hp, if_neg fun q => hp q.symm, G.sym]
    · unfold app at h
      by_cases hp : (a, b) ∈ fl ∨ (b, a) ∈ fl
      · rw [if_pos hp] at h
        obtain ⟨_, _, _, x, y, h4, h5, _⟩ := hP a b hp
        rw [via_eq a b x y h4 h5] at h
        cases h
        have := G.pos _ _ _ h4
        have := G.pos _ _ _ h5
        omega
      · rw [if_neg hp] at h; exact G.pos _ _ _ h
    · unfold app
      rw [if_neg fun hp => (hP a a hp).1 rfl, G.diag]
  refine ⟨good, fun a b l ⟨h, ha, hb⟩ => ?_, keep, fun a b x y h1 h2 hne ha hb => ?_⟩
  · unfold app at h
    by_cases hp : (a, b) ∈ fl ∨ (b, a) ∈ fl
    · rw [if_pos hp] at h
      obtain ⟨_, _, _, x, y, h4, h5, _⟩ := hP a b hp
      rw [via_eq a b x y h4 h5] at h
      cases h
      exact (Pth.one (e := EdW w left) ⟨h4, ((hS a).mp ha).1, hv⟩).snoc ⟨h5, hv, ((hS b).mp hb).1⟩
    · rw [if_neg hp] at h
      exact .one ⟨h, ((hS a).mp ha).1, ((hS b).mp hb).1⟩
  · have key : ∀ a b x y, w a v = some x → w v b = some y → a < b → a ∈ S' → b ∈ S' → ∃ k, k ≤ x + y ∧ Pth (EdW (app w v fl) S') a b k := fun a b x y h1 h2 hlt ha hb => by
      rcases hC a b x y ha hb hlt h1 h2 with h | ⟨k, hk, p⟩
      · refine ⟨x + y, Int.le_refl _, .one ⟨?_, ha, hb⟩⟩
        unfold app
        rw [if_pos (.inl h), via_eq a b x y h1 h2]
      · obtain ⟨k', hk', p'⟩ := lift a b k p
        exact ⟨k', by omega, p'⟩
    rcases Nat.lt_or_gt_of_ne hne with h | h
    · exact key a b x y h1 h2 h ha hb
    · obtain ⟨k, hk, p⟩ := key b a y x (by rw [G.sym]; exact h2) (by rw [G.sym]; exact h1) h hb ha
      exact ⟨k, by omega, p.symm (good.symE S')⟩

/-- what stands between the contractions -/
structure CH (E0 : Edg) (w : Gr) (left : List Nat) (up : Nat → List (Nat × Int)) : Prop where
  good : Good w
  edge : ∀ a b l, EdW w left a b l → Pth E0 a b l
  lt : ∀ a ∈ left, a < 7
  upE : ∀ a b l, AdjE up a b l → Pth E0 a b l ∧ 0 < l ∧ b < 7
  upL : ∀ a ∈ left, up a = []
  full : ∀ a b k, a < 7 → b < 7 → Pth E0 a b k → (∃ x p q, x ∉ left ∧ Pth (AdjE up) a x p ∧ Pth (AdjE up) b x q ∧ p + q ≤ k) ∨
    ∃ x y p q d, x ∈ left ∧ y ∈ left ∧ Pth (AdjE up) a x p ∧ Pth (AdjE up) b y q ∧ Pth (EdW w left) x y d ∧ p + d + q ≤ k
theorem CH.start {w : Gr} {left : List Nat} (G : Good w) (hl : ∀ a, a ∈ left ↔ a < 7) : CH (EdW w left) w left (fun _ => []) :=
  ⟨G, fun _ _ _ => Pth.one, fun a h => (hl a).mp h, fun _ _ _ h => (by cases h.2), fun _ _ => rfl, fun a b k ha hb p => .inr ⟨a, b, 0, 0, k, (hl a).mpr ha, (hl b).mpr hb, .nil _, .nil _, p, by omega⟩⟩
theorem CH.stay {E0 : Edg} {w : Gr} {left : List Nat} {up : Nat → List (Nat × Int)} (H : CH E0 w left up) {a x : Nat} {p : Int} (ha : a ∈ left) (P : Pth (AdjE up) a x p) : x = a ∧ p = 0 := by
  cases P with
  | nil => exact ⟨rfl, rfl⟩
  | cons e _ =>
    have := e.2
    rw [H.upL a ha] at this
    cases this
theorem CH.dist {E0 : Edg} {w : Gr} {left : List Nat} {up : Nat → List (Nat × Int)} (H : CH E0 w left up) {a b : Nat} {o : Option Int} (ha : a ∈ left) (hb : b ∈ left) (D : IsDist E0 a b o) : IsDist (EdW w left) a b o := by
  have back : ∀ k, Pth E0 a b k → ∃ k', k' ≤ k ∧ Pth (EdW w left) a b k' := fun k p => by
    rcases H.full a b k (H.lt a ha) (H.lt b hb) p with ⟨x, p, q, hx, h1, _, _⟩ | ⟨x, y, p, q, d, hx, hy, h1, h2, h3, h4⟩
    · obtain ⟨rfl, _⟩ := H.stay ha h1
      exact absurd ha hx
    · obtain ⟨rfl, rfl⟩ := H.stay ha h1
      obtain ⟨rfl, rfl⟩ := H.stay hb h2
      exact ⟨d, by omega, h3⟩
  have forth : ∀ k a b, Pth (EdW w left) a b k → Pth E0 a b k := fun k a b p => p.mono H.edge
  cases o with
  | none => exact fun k p => D k (forth k a b p)
  | some x =>
    obtain ⟨k', h1, p'⟩ := back x D.1
    have := D.2 _ (forth _ _ _ p')
    have e : k' = x := by omega
    subst e
    exact ⟨p', fun k p => D.2 _ (forth _ _ _ p)⟩
theorem Contr.path {w w' : Gr} {left S' : List Nat} {v : Nat} (G : Good w) (K : Contr w left v S' w') (hS : ∀ x, x ∈ S' ↔ x ∈ left ∧ x ≠ v) {x y : Nat} {d : Int} (p : Pth (EdW w left) x y d) (hy : y ∈ S') :
    (x ∈ S' → ∃ d', d' ≤ d ∧ Pth (EdW w' S') x y d') ∧ (x = v → ∃ z l d', w v z = some l ∧ z ∈ S' ∧ Pth (EdW w' S') z y d' ∧ l + d' ≤ d) := by
  induction p with
  | nil a => exact ⟨fun _ => ⟨0, Int.le_refl _, .nil _⟩, fun e => absurd e ((hS a).mp hy).2⟩
  | @cons a c b l k e p ih =>
    obtain ⟨i1, i2⟩ := ih hy
    obtain ⟨e1, ha, hc⟩ := e
    by_cases hcv : c = v
    · subst hcv
      obtain ⟨z, l2, d', h1, h2, h3, h4⟩ := i2 rfl
      refine ⟨fun haS => ?_, fun hav => ?_⟩
      · have := G.pos _ _ _ e1
        have := G.pos _ _ _ h1
        by_cases haz : a = z
        · subst haz; exact ⟨d', by omega, h3⟩
        · obtain ⟨k2, h5, p2⟩ := K.short a z l l2 e1 h1 haz haS h2
          exact ⟨k2 + d', by omega, p2.trans h3⟩
      · subst hav; rw [G.diag] at e1; cases e1
    · have hcS : c ∈ S' := (hS c).mpr ⟨hc, hcv⟩
      obtain ⟨d', h1, p'⟩ := i1 hcS
      refine ⟨fun haS => ?_, fun hav => ?_⟩
      · obtain ⟨l', h2, h3⟩ := K.keep a c l e1 haS hcS
        exact ⟨l' + d', by omega, .cons ⟨h3, haS, hcS⟩ p'⟩
      · subst hav; exact ⟨c, l, d', e1, hcS, p', by omega⟩
theorem CH.step {E0 : Edg} {w w' : Gr} {left S' : List Nat} {up : Nat → List (Nat × Int)} {v : Nat} {adj : List (Nat × Int)} (H : CH E0 w left up) (K : Contr w left v S' w') (hS : ∀ x, x ∈ S' ↔ x ∈ left ∧ x ≠ v) (hv : v ∈ left)
    (hadj : ∀ z l, (z, l) ∈ adj ↔ z ∈ S' ∧ w v z = some l) : CH E0 w' S' (fun u => if u = v then adj else up u) := by
  have hup : up v = [] := H.upL v hv
  have hv7 := H.lt v hv
  have inc : ∀ a b l, AdjE up a b l → AdjE (fun u => if u = v then adj else up u) a b l := fun a b l ⟨h1, h2⟩ => by
    refine ⟨h1, ?_⟩
    have : a ≠ v := fun e => by rw [e, hup] at h2; cases h2
    show (b, l) ∈ if a = v then adj else up a
    rw [if_neg this]; exact h2
  have new : ∀ z l, z ∈ S' → w v z = some l → AdjE (fun u => if u = v then adj else up u) v z l := fun z l hz h => ⟨hv7, by
    show (z, l) ∈ if v = v then adj else up v
    rw [if_pos rfl]; exact (hadj z l).mpr ⟨hz, h⟩⟩
  refine ⟨K.good, fun a b l h => (K.sound a b l h).mono H.edge, fun a h => H.lt a ((hS a).mp h).1, fun a b l ⟨h1, h2⟩ => ?_, fun a h => ?_, fun a b k ha hb p => ?_⟩
  · have h2 : (b, l) ∈ if a = v then adj else up a := h2
    by_cases e : a = v
    · subst e
      rw [if_pos rfl] at h2
      obtain ⟨h3, h4⟩ := (hadj b l).mp h2
      have hb := ((hS b).mp h3).1
      exact ⟨H.edge a b l ⟨h4, hv, hb⟩, H.good.pos _ _ _ h4, H.lt b hb⟩
    · rw [if_neg e] at h2
      exact H.upE a b l ⟨h1, h2⟩
  · show (if a = v then adj else up a) = []
    rw [if_neg ((hS a).mp h).2]
    exact H.upL a ((hS a).mp h).1
  · rcases H.full a b k ha hb p with ⟨x, p, q, hx, h1, h2, h3⟩ | ⟨x, y, p, q, d, hx, hy, h1, h2, h3, h4⟩
    · exact .inl ⟨x, p, q, fun h => hx ((hS x).mp h).1, h1.mono (fun _ _ _ e => .one (inc _ _ _ e)), h2.mono (fun _ _ _ e => .one (inc _ _ _ e)), h3⟩
    · have h1 : Pth (AdjE fun u => if u = v then adj else up u) a x p := h1.mono (fun _ _ _ e => .one (inc _ _ _ e))
      have h2 : Pth (AdjE fun u => if u = v then adj else up u) b y q := h2.mono (fun _ _ _ e => .one (inc _ _ _ e))
      have hd := h3.nonneg (H.good.posE left)
      by_cases hxv : x = v
      · by_cases hyv : y = v
        · subst hxv; subst hyv
          exact .inl ⟨y, p, q, fun h => ((hS y).mp h).2 rfl, h1, h2, by omega⟩
        · have hyS := (hS y).mpr ⟨hy, hyv⟩
          obtain ⟨z, l, d', h5, h6, h7, h8⟩ := (K.path H.good hS h3 hyS).2 hxv
          subst hxv
          exact .inr ⟨z, y, p + l, q, d', h6, hyS, h1.snoc (new z l h6 h5), h2, h7, by omega⟩
      · have hxS := (hS x).mpr ⟨hx, hxv⟩
        by_cases hyv : y = v
        · obtain ⟨z, l, d', h5, h6, h7, h8⟩ := (K.path H.good hS (h3.symm (H.good.symE left)) hxS).2 hyv
          subst hyv
          exact .inr ⟨x, z, p, q + l, d', hxS, h6, h1, h2.snoc (new z l h6 h5), h7.symm (K.good.symE S'), by omega⟩
        · have hyS := (hS y).mpr ⟨hy, hyv⟩
          obtain ⟨d', h5, h6⟩ := (K.path H.good hS h3 hyS).1 hxS
          exact .inr ⟨x, y, p, q, d', hxS, hyS, h1, h2, h6, by omega⟩
theorem CH.up_lt {E0 : Edg} {w : Gr} {left : List Nat} {up : Nat → List (Nat × Int)} (H : CH E0 w left up) {a x : Nat} {p : Int} (ha : a < 7) (P : Pth (AdjE up) a x p) : x < 7 := by
  induction P with
  | nil => exact ha
  | cons e _ ih => exact ih (H.upE _ _ _ e).2.2
theorem CH.meet {E0 : Edg} {w : Gr} {up : Nat → List (Nat × Int)} (H : CH E0 w [] up) (hs : SymE E0) {a b : Nat} {o : Option Int} (ha : a < 7) (hb : b < 7) (d : IsDist E0 a b o) {da db : Nat → Option Int}
    (hda : ∀ x, IsDist (AdjE up) a x (da x)) (hdb : ∀ x, IsDist (AdjE up) b x (db x)) :
    (∀ k, o = some k → (∃ x p q, x < 7 ∧ da x = some p ∧ db x = some q ∧ p + q = k) ∧ ∀ x p q, da x = some p → db x = some q → k ≤ p + q) ∧ (o = none → ∀ x p q, da x = some p → db x = some q → False) := by
  have pth : ∀ x p q, da x = some p → db x = some q → Pth E0 a b (p + q) := fun x p q h1 h2 => by
    have i1 := hda x
    have i2 := hdb x
    rw [h1] at i1
    rw [h2] at i2
    exact (i1.1.mono fun a b l e => (H.upE a b l e).1).trans ((i2.1.mono fun a b l e => (H.upE a b l e).1).symm hs)
  have some_of : ∀ {a x : Nat} {o : Option Int} {p : Int}, IsDist (AdjE up) a x o → Pth (AdjE up) a x p → ∃ p', o = some p' ∧ p' ≤ p := fun {a x o p} h k => by
    cases o with
    | none => exact absurd k (h p)
    | some p' => exact ⟨p', rfl, h.2 _ k⟩
  refine ⟨fun k hk => ?_, fun ho x p q h1 h2 => ?_⟩
  · subst hk
    refine ⟨?_, fun x p q h1 h2 => d.2 _ (pth x p q h1 h2)⟩
    rcases H.full a b k ha hb d.1 with ⟨x, p, q, _, h1, h2, h3⟩ | ⟨x, _, _, _, _, hx, _⟩
    · obtain ⟨p', e1, l1⟩ := some_of (hda x) h1
      obtain ⟨q', e2, l2⟩ := some_of (hdb x) h2
      have := d.2 _ (pth x p' q' e1 e2)
      exact ⟨x, p', q', H.up_lt ha h1, e1, e2, by omega⟩
    · cases hx
  · subst ho; exact d _ (pth x p q h1 h2)
/-- a search over leads from a place of S -/
theorem pth_leads {w : Gr} {S : List Nat} {adj : Nat → List (Nat × Int)} (h7 : ∀ a ∈ S, a < 7) (hadj : ∀ u, u < 7 → ∀ z l, (z, l) ∈ adj u ↔ z ∈ S ∧ w u z = some l) {a b : Nat} (ha : a ∈ S) {o : Option Int} (d : IsDist (AdjE adj) a b o) : IsDist (EdW w S) a b o := by
  have back : ∀ k b, Pth (EdW w S) a b k → Pth (AdjE adj) a b k := fun k b p => p.mono fun u z l ⟨h1, h2, h3⟩ => .one ⟨h7 u h2, (hadj u (h7 u h2) z l).mpr ⟨h3, h1⟩⟩
  have forth : ∀ {a b k}, Pth (AdjE adj) a b k → a ∈ S → Pth (EdW w S) a b k := fun {a b k} p => by
    induction p with
    | nil => exact fun _ => .nil _
    | cons e _ ih =>
      intro ha
      obtain ⟨h1, h2⟩ := (hadj _ e.1 _ _).mp e.2
      exact .cons ⟨h2, ha, h1⟩ (ih h1)
  cases o with
  | none => exact fun k p => d k (back k b p)
  | some x => exact ⟨forth d.1 ha, fun k p => d.2 _ (back k b p)⟩
end Mine

namespace Mine

/-! loops over a list, by what is done -/
theorem take_done {α : Type} {S : List α} {k : Nat} {x : α} (h : S[k]? = some x) : S = S.take k ++ x :: S.drop (k + 1) ∧ S.take (k + 1) = S.take k ++ [x] := by
  obtain ⟨hk, e⟩ := List.getElem?_eq_some_iff.mp h
  subst e
  refine ⟨?_, ?_⟩
  · rw [← List.drop_eq_getElem_cons hk, List.take_append_drop]
  · rw [List.take_add_one, List.getElem?_eq_getElem hk]; rfl
theorem map_getE {α β : Type} {S : List α} {g : α → β} {k : Nat} {v : β} (h : (S.map g)[k]? = some v) : ∃ x, S[k]? = some x ∧ v = g x := by
  rw [List.getElem?_map] at h
  cases e : S[k]? with
  | none => rw [e] at h; cases h
  | some x => rw [e] at h; exact ⟨x, rfl, (Option.some.inj h).symm⟩
section
variable {C : Cx} {d : Nat} {env : Env} {m : Frm} {φ : Phi}
theorem S_ForG {α : Type} {target iter : Expr} {body : List Stmt} {pos} {Q : Flow → Frm → Phi → Prop}
    (h : E C d env iter (fun v m φ => ∃ (κ : It) (S : List α) (g : α → Value) (I : List α → Frm → Phi → Prop), κ.from (S.map g) v φ ∧ TgOk target κ (S.map g) ∧ (∀ done m φ, I done m φ → κ.ok (S.map g) φ) ∧ I [] m φ ∧
      (∀ done x rest m φ, S = done ++ x :: rest → I done m φ → Ag C d env target (g x) (Ss C d env body (loopK (I (done ++ [x])) Q)) m φ) ∧
      (∀ m φ, I S m φ → Q .next m φ)) m φ)
    (hs : ∀ x, foldedSetIterable iter env x = pure x) : S C d env (.For target iter body [] pos) Q m φ :=
  S_For (E_mono' h) hs
where
  E_mono' {α : Type} {target iter : Expr} {body : List Stmt} {Q : Flow → Frm → Phi → Prop} {m : Frm} {φ : Phi} (h : E C d env iter (fun v m φ => ∃ (κ : It) (S : List α) (g : α → Value) (I : List α → Frm → Phi → Prop), κ.from (S.map g) v φ ∧ TgOk target κ (S.map g) ∧ (∀ done m φ, I done m φ → κ.ok (S.map g) φ) ∧ I [] m φ ∧
      (∀ done x rest m φ, S = done ++ x :: rest → I done m φ → Ag C d env target (g x) (Ss C d env body (loopK (I (done ++ [x])) Q)) m φ) ∧
      (∀ m φ, I S m φ → Q .next m φ)) m φ) :
    E C d env iter (fun v m φ => ∃ (κ : It) (xs : List Value) (I : Nat → Frm → Phi → Prop), κ.from xs v φ ∧ TgOk target κ xs ∧ (∀ k m φ, I k m φ → κ.ok xs φ) ∧ I 0 m φ ∧
      (∀ k v m φ, xs[k]? = some v → I k m φ → Ag C d env target v (Ss C d env body (loopK (I (k + 1)) Q)) m φ) ∧
      (∀ m φ, I xs.length m φ → Q .next m φ)) m φ := B.mono h fun v m φ ⟨κ, S, g, I, h1, h2, h3, h4, h5, h6⟩ =>
    ⟨κ, S.map g, fun k => I (S.take k), h1, h2, fun k m φ => h3 _ m φ, h4, fun k v m φ hv hI => by
      obtain ⟨x, hx, rfl⟩ := map_getE hv
      obtain ⟨e1, e2⟩ := take_done hx
      have := h5 _ x _ m φ e1 hI
      rw [← e2] at this
      exact this, fun m φ hI => by
      refine h6 m φ ?_
      rw [List.length_map, List.take_length] at hI
      exact hI⟩

/-! comprehensions with their frame opaque -/
def closeL (cells : List (Str × Addr)) : List (Str × NameKind) → List (Str × Addr) → List (Str × Addr)
  | [], cs => cs
  | (n, k) :: r, cs => if k == .free then closeL cells r ((n, (cells.lookup n).getD 0) :: cs) else closeL cells r cs
theorem closure_go {env : Env} : ∀ (names : List (Str × NameKind)) (cs : List (Str × Addr)), (names.all fun x => !(x.2 == .free) || (env.cells.lookup x.1).isSome) = true →
    forIn (m := Sem) names cs (fun x r => if x.2 == NameKind.free then (do let a ← cellOf env x.1; pure (ForInStep.yield ((x.1, a) :: r))) else pure (ForInStep.yield r)) = pure (closeL env.cells names cs)
  | [], cs, _ => rfl
  | (n, k) :: r, cs, h => by
    simp only [List.all_cons, Bool.and_eq_true] at h
    rw [List.forIn_cons]
    unfold closeL
    cases hk : k == NameKind.free with
    | false =>
      simp only [hk, pure_bind]
      exact closure_go r cs h.2
    | true =>
      have h1 := h.1
      simp only [hk, Bool.not_true, Bool.false_or] at h1
      obtain ⟨c, hc⟩ := Option.isSome_iff_exists.mp h1
      simp only [hk, if_true, cellOf, hc, pure_bind, Option.getD_some]
      exact closure_go r _ h.2
theorem closure_of {scope : Scope} {env : Env} (h : (scope.names.all fun x => !(x.2 == .free) || (env.cells.lookup x.1).isSome) = true) : closureFor scope env = pure (closeL env.cells scope.names []) := by
  have := closure_go (env := env) scope.names [] h
  unfold closureFor
  simp only [bind_pure]
  refine Eq.trans ?_ this
  congr 1

def relabelS (scope sc : Scope) : Scope := relabel scope { scope := sc, locals := 0, globals := 0, cells := [] }
theorem cenv_scope {scope sc : Scope} {env : Env} {Cl cl} (h : env.scope = sc) : (cenv scope env Cl cl).scope = relabelS scope sc := by
  subst h; rfl
/-- what is known of a comprehension's frame -/
structure Ce (scope sc : Scope) (cells : List (Str × Addr)) (Cl : Addr) (ce : Env) : Prop where
  l : ce.locals = Cl
  s : ce.scope = relabelS scope sc
  g : ce.globals = mainGlobals
  b : ce.builtins = builtinsNs
  c : ce.cells = cellsFrom (Cl + 1) scope.names (closeL cells scope.names [])
structure CompG {α : Type} (C : Cx) (d : Nat) (ce : Env) (target elt : Expr) (ifs : List Expr) (κ : It) (S : List α) (g : α → Value) (J : List α → List Value → Frm → Phi → Prop) : Prop where
  ok : ∀ done ys mc φ, J done ys mc φ → κ.ok (S.map g) φ
  turn : ∀ done x rest ys mc φ, S = done ++ x :: rest → J done ys mc φ → Ag C d ce target (g x) (Tst C d ce ifs (fun ok mc φ => if ok = true then E C d ce elt (fun y mc φ => J (done ++ [x]) (ys ++ [y]) mc φ) mc φ else J (done ++ [x]) ys mc φ)) mc φ
theorem CompG.to {α : Type} {ce : Env} {target elt : Expr} {ifs : List Expr} {κ : It} {S : List α} {g : α → Value} {J : List α → List Value → Frm → Phi → Prop} (H : CompG C d ce target elt ifs κ S g J) : CompJ C d ce target elt ifs κ (S.map g) (fun k => J (S.take k)) :=
  ⟨fun k => H.ok _, fun k v ys mc φ hv hJ => by
    obtain ⟨x, hx, rfl⟩ := map_getE hv
    obtain ⟨e1, e2⟩ := take_done hx
    have := H.turn _ x _ ys mc φ e1 hJ
    rw [← e2] at this
    exact this⟩
/-- the clause, and what follows it -/
def CompH (C : Cx) (d : Nat) (env : Env) (target elt iter : Expr) (ifs : List Expr) (scope sc : Scope) (cells : List (Str × Addr)) (α : Type) (R : Addr → Frm → Phi → Prop) (m : Frm) (φ : Phi) : Prop :=
  E C d env iter (fun v m φ => ∃ (κ : It) (S : List α) (g : α → Value), κ.from (S.map g) v φ ∧ S.length ≤ 10000 ∧ ∀ Cl ce, (∀ a, Cl ≤ a → φ a = none) → Ce scope sc cells Cl ce → ∃ J, CompG C d ce target elt ifs κ S g J ∧ J [] [] (fun _ => none) (cellsPhi (Cl + 1) scope.names φ) ∧
      ∀ ys mc φ' D, J S ys mc φ' → φ' D = none → R D m (upd φ' D (.lst ys))) m φ
theorem CompH.to {α : Type} {target elt iter : Expr} {ifs : List Expr} {scope sc : Scope} {cells : List (Str × Addr)} {R : Addr → Frm → Phi → Prop} (h : CompH C d env target elt iter ifs scope sc cells α R m φ) (he : env.cells = cells) (hsc : env.scope = sc) (hg : env.globals = mainGlobals) (hb : env.builtins = builtinsNs) :
    E C d env iter (fun v m φ => ∃ κ xs, κ.from xs v φ ∧ xs.length ≤ 10000 ∧ ∀ Cl, (∀ a, Cl ≤ a → φ a = none) → ∃ J, CompJ C d (cenv scope env Cl (closeL env.cells scope.names [])) target elt ifs κ xs J ∧ J 0 [] (fun _ => none) (cellsPhi (Cl + 1) scope.names φ) ∧
      ∀ ys mc φ' D, J xs.length ys mc φ' → φ' D = none → R D m (upd φ' D (.lst ys))) m φ := B.mono h fun v m φ ⟨κ, S, g, h1, h2, h3⟩ =>
  ⟨κ, S.map g, h1, by rw [List.length_map]; exact h2, fun Cl hfr => by
    subst he
    obtain ⟨J, H, h0, fin⟩ := h3 Cl (cenv scope env Cl (closeL env.cells scope.names [])) hfr ⟨rfl, cenv_scope hsc, hg, hb, rfl⟩
    refine ⟨_, H.to, h0, fun ys mc φ' D hJ hD => fin ys mc φ' D ?_ hD⟩
    rw [List.length_map, List.take_length] at hJ
    exact hJ⟩
theorem E_LC {α : Type} {target elt iter : Expr} {ifs : List Expr} {scope sc : Scope} {pos : Pos} {cells : List (Str × Addr)} {Q : Value → Frm → Phi → Prop}
    (he : env.cells = cells) (hsc : env.scope = sc) (hg : env.globals = mainGlobals) (hb : env.builtins = builtinsNs) (h : CompH C d env target elt iter ifs scope sc cells α (fun D => Q (.ref D)) m φ)
    (hclos : (scope.names.all fun x => !(x.2 == .free) || (cells.lookup x.1).isSome) = true) (hk : scope.kind = .function) (hnames : ∀ x ∈ scope.names, x.2 = .local → scope.names.lookup x.1 = some .local)
    (ht : ∀ it v, letOwnedTupleGo target it v = pure ()) (hs : ∀ x, foldedSetIterable iter env x = pure x) :
    E C d env (.ListComp elt [⟨target, iter, ifs, 0⟩] scope pos) Q m φ := E_ListComp (closure_of (he ▸ hclos)) hk hnames ht hs (h.to he hsc hg hb)
theorem S_LC {α : Type} {y : Str} {py : Pos} {target elt iter : Expr} {ifs : List Expr} {scope sc : Scope} {pos spos : Pos} {cells : List (Str × Addr)} {Q : Flow → Frm → Phi → Prop} (K : Loc env y)
    (he : env.cells = cells) (hsc : env.scope = sc) (hg : env.globals = mainGlobals) (hb : env.builtins = builtinsNs) (h : CompH C d env target elt iter ifs scope sc cells α (fun D m => Q .next (fset m y (.ref D))) m φ)
    (hsw : swapsWith (.ListComp elt [⟨target, iter, ifs, 0⟩] scope pos) (some (.Name y py)) spos.line env = pure true)
    (hclos : (scope.names.all fun x => !(x.2 == .free) || (cells.lookup x.1).isSome) = true) (hk : scope.kind = .function) (hnames : ∀ x ∈ scope.names, x.2 = .local → scope.names.lookup x.1 = some .local)
    (ht : ∀ it v, letOwnedTupleGo target it v = pure ()) (hs : ∀ x, foldedSetIterable iter env x = pure x) :
    S C d env (.Assign [.Name y py] (.ListComp elt [⟨target, iter, ifs, 0⟩] scope pos) spos) Q m φ := S_AssignComp K hsw (closure_of (he ▸ hclos)) hk hnames ht hs (h.to he hsc hg hb)

theorem G_cell {x pos} {a : Value} {c : Addr} {v₀ : Option Value} {Q : Frm → Phi → Prop} (K : Cel env x c) (hv : φ c = some (.cell v₀)) (h : Q m (upd φ c (.cell (some a)))) : Ag C d env (.Name x pos) a Q m φ := fun v e => .raw fun ρ A s ro F =>
  wpAny_assign_Name ((B_storeC (Q := fun _ => Q) K.l hv (e ▸ h) K.f K.k).then ro F fun _ m'' φ'' s'' F'' q'' => ⟨m'', φ'', F'', q''⟩)

/-! tables -/
def row (f : Nat → Option Int) : List Value := (List.range 7).map fun j => ov (f j)
theorem row_len (f) : (row f).length = 7 := rfl
theorem at_row {f : Nat → Option Int} {n : Nat} (h : n < 7) : at_ (row f) n = ov (f n) := by
  match n, h with
  | 0, _ => rfl | 1, _ => rfl | 2, _ => rfl | 3, _ => rfl | 4, _ => rfl | 5, _ => rfl | 6, _ => rfl
theorem row_set {f : Nat → Option Int} {n : Nat} {o : Option Int} (h : n < 7) : (row f).set n (ov o) = row (bset f n o) := by
  match n, h with
  | 0, _ => rfl | 1, _ => rfl | 2, _ => rfl | 3, _ => rfl | 4, _ => rfl | 5, _ => rfl | 6, _ => rfl
def refs (r : Nat → Addr) : List Value := (List.range 7).map fun i => .ref (r i)
theorem at_refs {r : Nat → Addr} {n : Nat} (h : n < 7) : at_ (refs r) n = .ref (r n) := by
  match n, h with
  | 0, _ => rfl | 1, _ => rfl | 2, _ => rfl | 3, _ => rfl | 4, _ => rfl | 5, _ => rfl | 6, _ => rfl
structure Tab (φ : Phi) (a : Addr) (r : Nat → Addr) (t : Gr) : Prop where
  own : φ a = some (.lst (refs r))
  row : ∀ i, i < 7 → φ (r i) = some (.lst (row (t i)))
theorem Tab.le {φ ψ : Phi} {a r t} (T : Tab φ a r t) (h : Le φ ψ) : Tab ψ a r t := ⟨h _ _ T.own, fun i hi => h _ _ (T.row i hi)⟩
theorem Tab.alloc {φ : Phi} {a r t b x} (T : Tab φ a r t) (h : φ b = none) : Tab (upd φ b x) a r t := T.le ((Le.refl _).alloc h)
theorem Tab.updO {φ : Phi} {a r t b x} (T : Tab φ a r t) (h1 : a ≠ b) (h2 : ∀ i, i < 7 → r i ≠ b) : Tab (upd φ b x) a r t := ⟨upd_ne h1 T.own, fun i hi => upd_ne (h2 i hi) (T.row i hi)⟩
theorem Tab.ne {φ : Phi} {a r t} (T : Tab φ a r t) {i : Nat} (hi : i < 7) : a ≠ r i := fun e => by
  have h1 := T.own
  rw [e, T.row i hi] at h1
  have h2 : Mine.row (t i) = refs r := AO.lst.inj (Option.some.inj h1)
  have h3 : at_ (Mine.row (t i)) 0 = at_ (refs r) 0 := by rw [h2]
  rw [at_row (by decide), at_refs (by decide)] at h3
  cases e : t i 0 <;> rw [e] at h3 <;> cases h3
theorem bset_row (t : Gr) (i j : Nat) (o : Option Int) : row (tset t i j o i) = row (bset (t i) j o) := by
  unfold row
  congr 1
  funext x
  unfold bset tset
  by_cases hx : x = j <;> simp [hx]
theorem tset_row (t : Gr) {i k : Nat} (j : Nat) (o : Option Int) (h : k ≠ i) : row (tset t i j o k) = row (t k) := by
  unfold row
  congr 1
  funext x
  unfold tset
  simp [h]
/-- one entry is set -/
theorem Tab.set {φ : Phi} {a r t} (T : Tab φ a r t) (inj : ∀ i j, i < 7 → j < 7 → r i = r j → i = j) {i : Nat} (hi : i < 7) (j : Nat) (o : Option Int) :
    Tab (upd φ (r i) (.lst (Mine.row (bset (t i) j o)))) a r (tset t i j o) := by
  refine ⟨upd_ne (T.ne hi) T.own, fun k hk => ?_⟩
  by_cases e : k = i
  · subst e
    rw [upd_same, bset_row]
  · refine upd_ne (fun q => e (inj k i hk hi q)) ?_
    rw [T.row k hk, tset_row t j o e]
section
variable {L : Addr} {Q : Value → Frm → Phi → Prop}
theorem I_refs {value slice : Expr} {l : Addr} {r : Nat → Addr} {n : Nat} (hl : φ l = some (.lst (refs r))) (h : Q (.ref (r n)) m φ) (hn : n < 7)
    (hs : ∀ u : Nat, subscripted slice false (.ref l) (.int (n : Int) u) = operate [.ref l, .int (n : Int) u] (getItem (.ref l) (.int (n : Int) u))) :
    Op2 C d L (subscriptTail value slice) (.ref l) (.int (n : Int) 0) Q m φ := I_list hl (by rw [at_refs hn]; exact h) hn hs
theorem I_row {value slice : Expr} {l : Addr} {f : Nat → Option Int} {n : Nat} (hl : φ l = some (.lst (row f))) (h : Q (ov (f n)) m φ) (hn : n < 7)
    (hs : ∀ u : Nat, subscripted slice false (.ref l) (.int (n : Int) u) = operate [.ref l, .int (n : Int) u] (getItem (.ref l) (.int (n : Int) u))) :
    Op2 C d L (subscriptTail value slice) (.ref l) (.int (n : Int) 0) Q m φ := I_list hl (by rw [at_row hn]; exact h) hn hs
theorem I_rowS {value slice : Expr} {l : Addr} {f : Nat → Option Int} {n : Nat} {x : Int} (hl : φ l = some (.lst (row f))) (hx : f n = some x) (h : Q (.int x 0) m φ) (hn : n < 7)
    (hs : ∀ u : Nat, subscripted slice false (.ref l) (.int (n : Int) u) = operate [.ref l, .int (n : Int) u] (getItem (.ref l) (.int (n : Int) u))) :
    Op2 C d L (subscriptTail value slice) (.ref l) (.int (n : Int) 0) Q m φ := I_row hl (by rw [hx]; exact h) hn hs
/-- an entry is set -/
theorem SetI_row {l : Addr} {f : Nat → Option Int} {n : Nat} {o : Option Int} {v : Value} {Q : Frm → Phi → Prop} (hl : φ l = some (.lst (row f))) (hv : v = ov o) (h : Q m (upd φ l (.lst (row (bset f n o))))) (hn : n < 7) :
    SetI C d L (.ref l) (.int (n : Int) 0) v Q m φ := SetI_at hl (by rw [hv, row_set hn]; exact h) hn
theorem if_some {o : Option Int} {X Y : Prop} (h1 : ∀ x, o = some x → X) (h2 : o = none → Y) : if o.isSome = true then X else Y := by
  cases o with
  | none => exact if_ff (h2 rfl)
  | some x => exact if_tt (h1 x rfl)
theorem if_nil {o : Option Int} {X Y : Prop} (h1 : o = none → X) (h2 : ∀ x, o = some x → Y) : if o.isNone = true then X else Y := by
  cases o with
  | none => exact if_tt (h1 rfl)
  | some x => exact if_ff (h2 x rfl)
end
end
/-! two cells at a frame's start -/
theorem cells2 {φ : Phi} {a b : Addr} {v w : AO} (h : a ≠ b) : upd (upd (upd (upd φ a (.cell none)) b (.cell none)) a v) b w = upd (upd φ a v) b w := by
  rw [upd_comm (Ne.symm h), upd_upd, upd_upd]
theorem cells2' {φ : Phi} {a b : Addr} {v w : AO} (h : a ≠ b) : upd (upd (upd (upd φ a (.cell none)) b (.cell none)) b w) a v = upd (upd φ a v) b w := by
  rw [upd_upd, ← upd_comm h, upd_upd]
theorem fr1 {φ : Phi} {L : Addr} (hL : ∀ a, L ≤ a → φ a = none) : φ (L + 1) = none := hL _ (Nat.le_add_right _ _)
theorem fr2 {φ : Phi} {L : Addr} (hL : ∀ a, L ≤ a → φ a = none) : φ (L + 1 + 1) = none := hL _ (Nat.le_trans (Nat.le_add_right L 1) (Nat.le_add_right _ _))
theorem fr12 {L : Addr} : L + 1 ≠ L + 1 + 1 := Nat.ne_of_lt (Nat.lt_succ_self _)
theorem Le.look {φ ψ : Phi} {a x} (h : φ a = some x) (k : Le φ ψ) : ψ a = some x := k _ _ h
theorem from_nats {φ : Phi} {l : Addr} {S : List Nat} (h : φ l = some (.lst (nats S))) : It.from (.list l) (S.map fun (x : Nat) => Value.int (x : Int) 0) (.ref l) φ := ⟨rfl, h⟩
theorem ok_nats {φ : Phi} {l : Addr} {S : List Nat} (h : φ l = some (.lst (nats S))) : It.ok (.list l) (S.map fun (x : Nat) => Value.int (x : Int) 0) φ := h
theorem from_lst {φ : Phi} {l : Addr} {α : Type} {S : List α} {g : α → Value} (h : φ l = some (.lst (S.map g))) : It.from (.list l) (S.map g) (.ref l) φ := ⟨rfl, h⟩
theorem ok_lst {φ : Phi} {l : Addr} {α : Type} {S : List α} {g : α → Value} (h : φ l = some (.lst (S.map g))) : It.ok (.list l) (S.map g) φ := h
theorem Tst_one {C : Cx} {d : Nat} {env : Env} {c : Expr} {Q : Bool → Frm → Phi → Prop} {m : Frm} {φ : Phi} (h : T C d env c Q m φ) : Tst C d env [c] Q m φ := h
theorem Tst_nil {C : Cx} {d : Nat} {env : Env} {Q : Bool → Frm → Phi → Prop} {m : Frm} {φ : Phi} (h : Q true m φ) : Tst C d env [] Q m φ := h
theorem nats_take {S : List Nat} {p : Nat → Bool} {x : Nat} (h : p x = true) : nats (S.filter p) ++ [.int (x : Int) 0] = nats ((S ++ [x]).filter p) := by
  rw [List.filter_append, show [x].filter p = [x] by simp [h]]
  unfold nats; rw [List.map_append]; rfl
theorem nats_skip {S : List Nat} {p : Nat → Bool} {x : Nat} (h : p x = false) : nats (S.filter p) = nats ((S ++ [x]).filter p) := by
  rw [List.filter_append, show [x].filter p = [] by simp [h], List.append_nil]
theorem nats_len (S : List Nat) : (nats S).length = S.length := List.length_map ..
theorem ov_int (x : Int) : Value.int x 0 = ov (some x) := rfl
/-- objects that are made one by one -/
structure Bld (P : Phi → Nat → Addr → Prop) (φ₀ φ : Phi) (done : List Nat) (r : Nat → Addr) : Prop where
  has : ∀ i ∈ done, P φ i (r i)
  is : ∀ i ∈ done, ∃ o, φ (r i) = some o
  inj : ∀ i ∈ done, ∀ j ∈ done, r i = r j → i = j
  new : ∀ i ∈ done, φ₀ (r i) = none
  le : Le φ₀ φ
theorem Bld.start {P : Phi → Nat → Addr → Prop} {φ₀ φ : Phi} {r} (h : Le φ₀ φ) : Bld P φ₀ φ [] r := ⟨fun _ h => (by cases h), fun _ h => (by cases h), fun _ h => (by cases h), fun _ h => (by cases h), h⟩
def rset (r : Nat → Addr) (x : Nat) (a : Addr) : Nat → Addr := fun i => if i = x then a else r i
theorem Bld.step {P : Phi → Nat → Addr → Prop} (mono : ∀ φ ψ i a, Le φ ψ → P φ i a → P ψ i a) {φ₀ φ φ' : Phi} {done : List Nat} {r : Nat → Addr} (B : Bld P φ₀ φ done r) {x : Nat} {a : Addr} {o : AO} (hx : x ∉ done) (le : Le φ φ') (ha : φ a = none) (hP : P φ' x a) (ho : φ' a = some o) :
    Bld P φ₀ φ' (done ++ [x]) (rset r x a) ∧ (done ++ [x]).map (fun i => Value.ref (rset r x a i)) = done.map (fun i => Value.ref (r i)) ++ [.ref a] := by
  have ne : ∀ i ∈ done, rset r x a i = r i := fun i hi => if_neg fun (e : i = x) => hx (e ▸ hi)
  have eq : rset r x a x = a := if_pos rfl
  have both : ∀ i ∈ done ++ [x], i ∈ done ∨ i = x := fun i hi => (List.mem_append.mp hi).imp id List.mem_singleton.mp
  have nea : ∀ i ∈ done, r i ≠ a := fun i hi e => by
    obtain ⟨o, h⟩ := B.is i hi
    rw [e, ha] at h; cases h
  refine ⟨⟨fun i hi => ?_, fun i hi => ?_, fun i hi j hj e => ?_, fun i hi => ?_, B.le.trans le⟩, ?_⟩
  · rcases both i hi with h | rfl
    · rw [ne i h]; exact mono _ _ _ _ le (B.has i h)
    · rw [eq]; exact hP
  · rcases both i hi with h | rfl
    · rw [ne i h]; obtain ⟨o, h⟩ := B.is i h; exact ⟨o, le _ _ h⟩
    · rw [eq]; exact ⟨o, ho⟩
  · rcases both i hi with h | rfl
    · rcases both j hj with h' | rfl
      · rw [ne i h, ne j h'] at e; exact B.inj i h j h' e
      · rw [ne i h, eq] at e; exact absurd e (nea i h)
    · rcases both j hj with h' | rfl
      · rw [ne j h', eq] at e; exact absurd e.symm (nea j h')
      · rfl
  · rcases both i hi with h | rfl
    · rw [ne i h]; exact B.new i h
    · rw [eq]; exact B.le.none ha
  · rw [List.map_append, List.map_singleton, eq]
    congr 1
    exact List.map_congr_left fun i hi => by rw [ne i hi]
theorem mid_not {S done rest : List Nat} {x : Nat} (hn : S.Nodup) (h : S = done ++ x :: rest) : x ∉ done := fun hx => by
  subst h
  have := List.nodup_append.mp hn
  exact this.2.2 x hx x (.head _) rfl
theorem mid_mem {α : Type} {S done rest : List α} {x : α} (h : S = done ++ x :: rest) : x ∈ S := by rw [h]; simp
theorem done_mem {α : Type} {S done rest : List α} {x y : α} (h : S = done ++ x :: rest) (hy : y ∈ done) : y ∈ S := by rw [h]; exact List.mem_append_left _ hy
theorem range7 {i : Nat} : i ∈ List.range 7 ↔ i < 7 := List.mem_range
theorem range7_nodup : (List.range 7).Nodup := List.nodup_range
/-- a table stands -/
theorem Bld.tab {φ₀ φ : Phi} {r : Nat → Addr} {t : Gr} {D : Addr} (B : Bld (fun φ i a => φ a = some (.lst (row (t i)))) φ₀ φ (List.range 7) r) (hD : φ D = none) : Tab (upd φ D (.lst (refs r))) D r t :=
  ⟨upd_same .., fun i hi => upd_old hD (B.has i (range7.mpr hi))⟩
theorem swap_true {y : Str} {py : Pos} {elt : Expr} {gs : List Comprehension} {scope : Scope} {pos : Pos} {line : Nat} {env : Env} (K : Loc env y) (hb : env.blockKind = .function)
    (h : (py.line == pos.line && !(scope.names.any fun x => x.1 == y && (x.2 == .local || x.2 == .cell))) = true) : swapsWith (.ListComp elt gs scope pos) (some (.Name y py)) line env = pure true := by
  show pure (env.blockKind == .function && env.kindOf y == some .local && py.line == pos.line && !(scope.names.any fun x => x.1 == y && (x.2 == .local || x.2 == .cell))) = _
  rw [hb, K.k, Bool.and_assoc, h]; rfl
/-! lists of pairs (place, length) -/
def PL (φ : Phi) (a : Addr) (ps : List (Nat × Int)) : Prop :=
  ∃ S : List (Addr × Nat × Int), φ a = some (.lst (S.map fun q => Value.ref q.1)) ∧ S.map (fun q => q.2) = ps ∧ ∀ q ∈ S, φ q.1 = some (.tup [.int (q.2.1 : Int) 0, .int q.2.2 0])
theorem PL.le {φ ψ : Phi} {a ps} (h : PL φ a ps) (k : Le φ ψ) : PL ψ a ps := let ⟨S, h1, h2, h3⟩ := h; ⟨S, k _ _ h1, h2, fun q hq => k _ _ (h3 q hq)⟩
theorem del_ne {φ : Phi} {a c : Addr} {x} (h : φ a = some x) (hn : a ≠ c) : del φ c a = some x := by unfold del; rw [if_neg hn]; exact h
theorem PL.del {φ : Phi} {a c ps v} (h : PL φ a ps) (hc : φ c = some (.cell v)) : PL (Mine.del φ c) a ps := by
  obtain ⟨S, h1, h2, h3⟩ := h
  refine ⟨S, del_ne h1 fun e => ?_, h2, fun q hq => del_ne (h3 q hq) fun e => ?_⟩
  · rw [e, hc] at h1; cases h1
  · have := h3 q hq; rw [e, hc] at this; cases this
structure Adj (φ : Phi) (a : Addr) (r : Nat → Addr) (adj : Nat → List (Nat × Int)) : Prop where
  own : φ a = some (.lst (refs r))
  row : ∀ i, i < 7 → PL φ (r i) (adj i)
theorem Adj.le {φ ψ : Phi} {a r t} (T : Adj φ a r t) (h : Le φ ψ) : Adj ψ a r t := ⟨h _ _ T.own, fun i hi => (T.row i hi).le h⟩
def leadsOf (w : Gr) (S : List Nat) (u : Nat) : List (Nat × Int) := S.filterMap fun x => (w u x).map fun l => (x, l)
theorem mem_leadsOf {w : Gr} {S : List Nat} {u z : Nat} {l : Int} : (z, l) ∈ leadsOf w S u ↔ z ∈ S ∧ w u z = some l := by
  unfold leadsOf
  rw [List.mem_filterMap]
  constructor
  · rintro ⟨x, hx, h⟩
    cases e : w u x with
    | none => rw [e] at h; cases h
    | some y => rw [e] at h; cases h; exact ⟨hx, e⟩
  · rintro ⟨h1, h2⟩
    exact ⟨z, h1, by rw [h2]; rfl⟩
theorem leads_take {w : Gr} {S : List Nat} {u x : Nat} {l : Int} (h : w u x = some l) : leadsOf w (S ++ [x]) u = leadsOf w S u ++ [(x, l)] := by
  unfold leadsOf
  rw [List.filterMap_append]
  simp [h]
theorem leads_skip {w : Gr} {S : List Nat} {u x : Nat} (h : w u x = none) : leadsOf w (S ++ [x]) u = leadsOf w S u := by
  unfold leadsOf
  rw [List.filterMap_append]
  simp [h]
theorem leads_len {w : Gr} {S : List Nat} {u : Nat} : (leadsOf w S u).length ≤ S.length := List.length_filterMap_le ..
theorem del_upd_le {φ φ' : Phi} {c : Addr} {v} (h : φ c = none) (k : Le (Mine.upd φ c v) φ') : Le φ (Mine.del φ' c) := fun a x e =>
  del_ne (k a x (upd_old h e)) fun q => by rw [q, h] at e; cases e
theorem pairs_step {φ φ' : Phi} {SS : List (Addr × Nat × Int)} {ps : List (Nat × Int)} {x : Nat} {l : Int} {a : Addr} (h1 : SS.map (fun q => q.2) = ps) (h2 : ∀ q ∈ SS, φ q.1 = some (.tup [.int (q.2.1 : Int) 0, .int q.2.2 0])) (le : Le φ φ')
    (ha : φ' a = some (.tup [.int (x : Int) 0, .int l 0])) :
    (SS ++ [(a, x, l)]).map (fun q => Value.ref q.1) = SS.map (fun q => Value.ref q.1) ++ [.ref a] ∧ (SS ++ [(a, x, l)]).map (fun q => q.2) = ps ++ [(x, l)] ∧ ∀ q ∈ SS ++ [(a, x, l)], φ' q.1 = some (.tup [.int (q.2.1 : Int) 0, .int q.2.2 0]) := by
  refine ⟨by rw [List.map_append]; rfl, by rw [List.map_append, h1]; rfl, fun q hq => ?_⟩
  rcases List.mem_append.mp hq with h | h
  · exact le _ _ (h2 q h)
  · rw [List.mem_singleton.mp h]; exact ha
theorem from_range {φ : Phi} {r : Addr} {n : Nat} (h : φ r = some (.rng 0 (n : Int) 1)) (hn : n ≤ 1000) : It.from (.range 0 1) ((List.range n).map fun (x : Nat) => Value.int (x : Int) 0) (.ref r) φ := by
  have hsz : Builtin.Range.rangeSize 0 n 1 = (n : Int) := by rw [rangeSize_one]; split <;> omega
  refine ⟨⟨r, n, rfl, h, small_one (by decide) (by decide) (by omega) (by omega), ?_⟩, ?_⟩
  · rw [List.length_map, List.length_range, hsz]
  · rw [List.length_map, List.length_range]
    exact List.map_congr_left fun i _ => by simp
theorem ok_range {φ : Phi} {n : Nat} : It.ok (.range 0 1) ((List.range n).map fun (x : Nat) => Value.int (x : Int) 0) φ := by
  show _ = _
  rw [List.length_map, List.length_range]
  exact List.map_congr_left fun i _ => by simp
end Mine

namespace Mine
section
variable {C : Cx} {d : Nat} {L : Addr} {m : Frm} {φ : Phi} {Q : Value → Frm → Phi → Prop}
/-- [None] * 7 -/
theorem Op_none7 {l : Addr} (hl : φ l = some (.lst [.none])) (h : ∀ a, φ a = none → Q (.ref a) m (upd φ a (.lst (row fun _ => none)))) : Op2 C d L (binaryOp .Mult) (.ref l) (.int 7 0) Q m φ := fun x y e e' => by
  rw [er_ref e]
  obtain ⟨u, rfl⟩ := er_int e'
  refine .raw fun ρ A s ro F => ?_
  obtain ⟨items, n, q, r, sz, sz'⟩ := F.lst hl
  have hi : items = #[.none] := by
    obtain ⟨v, h1, h2⟩ := ex1 (vs := items.toList) r
    rw [er_none h2] at h1
    exact Array.toList_inj.mp h1
  subst hi
  have q0 : s.heap.get? l = some { cls := .type "list", data := .seq #[.none] n } := q
  refine wpAny_binaryOp_repeat_ref (T := "list") (U := "int") (by decide) ⟨_, q0, rfl⟩ (fun s' => typeIs_int s' 7 u) noFill_list_mul PySem.F.fills_int_mul PySem.F.slot_int_rmul repeat_list PySem.F.slot_int_index.lookup
    (call_meets PySem.F.slot_int_rmul (typeIs_int s 7 u) PySem.F.entry_int_rmul (PySem.F.args_int_rmul_2 _ _) (lm_int_rmul_list_any 7 u l #[.none] n _ _)
      ⟨q0, rfl, ⟨_, q0, rfl⟩, call_meets PySem.F.slot_list_mul ⟨_, q0, rfl⟩ PySem.F.entry_list_mul (PySem.F.args_list_mul_2 _ _)
        (lm_list_mul_any l #[.none] n _ _ 7 u (by simp [Builtin.List.listFitsIndex]) (by decide) (by simp [Builtin.List.listTooLong, sizeLine]))
        ⟨q0, ?_⟩⟩)
  rw [listMul_foldl_if]
  obtain ⟨n0, _, F'⟩ := F.push (x := .lst (row fun _ => none)) (o := { cls := .type "list", data := .seq (List.replicate (Int.toNat 7) (#[Value.none] : Array Value).toList).flatten.toArray }) (tk := s.toks) ⟨_, 0, Heap.get?_push_size _ rfl, rfl, by decide⟩
  exact ⟨m, _, F', h _ n0⟩
end
theorem HeapFrom.congr {key key' : Key} {s : Nat} {xs : List Value} (h : HeapFrom key s xs) (k : ∀ v ∈ xs, key' v = key v) : HeapFrom key' s xs := fun c h0 hc hs => by
  rw [k _ (at_mem (by omega)), k _ (at_mem hc)]
  exact h c h0 hc hs
theorem IsP.inj {φ : Phi} {v p q} (h : IsP φ v p) (k : IsP φ v q) : p = q := by
  obtain ⟨a, e, x⟩ := h
  obtain ⟨b, e', y⟩ := k
  rw [e] at e'
  cases e'
  rw [x] at y
  have : pv p = pv q := AO.tup.inj (Option.some.inj y)
  unfold pv at this
  simp only [List.cons.injEq, Value.int.injEq] at this
  exact Prod.ext this.1.1 this.2.1.1
open Classical in
theorem key_new {φ : Phi} {a : Addr} {hs : List Value} {key : Key} (p : Int × Int) (ha : φ a = none) (hk : ∀ v ∈ hs, IsP φ v (key v)) : ∃ key' : Key, key' (.ref a) = p ∧ ∀ v ∈ hs, key' v = key v := by
  refine ⟨fun v => if v = .ref a then p else key v, if_pos rfl, fun v hv => if_neg fun e => ?_⟩
  obtain ⟨b, e', h⟩ := hk v hv
  rw [e] at e'
  cases e'
  rw [ha] at h; cases h
theorem countP_change {p p' : Nat → Bool} {u : Nat} (h1 : p u = true) (h2 : p' u = false) (h3 : ∀ x, x ≠ u → p' x = p x) : ∀ {S : List Nat}, S.Nodup → u ∈ S → S.countP p' + 1 = S.countP p
  | [], _, h => by cases h
  | x :: S, nd, h => by
    have nd' := List.nodup_cons.mp nd
    rw [List.countP_cons, List.countP_cons]
    by_cases e : x = u
    · subst e
      have : S.countP p' = S.countP p := List.countP_congr fun y hy => by rw [h3 y (fun e => nd'.1 (e ▸ hy))]
      rw [h1, h2, this]; rfl
    · have := countP_change h1 h2 h3 nd'.2 ((List.mem_cons.mp h).resolve_left (Ne.symm e))
      rw [h3 x e]; omega
def unset (best : Nat → Option Int) : Nat := (List.range 7).countP fun i => (best i).isNone
theorem unset_set {best : Nat → Option Int} {u : Nat} {k : Int} (hu : u < 7) (h : best u = none) : unset (bset best u (some k)) + 1 = unset best := by
  refine countP_change (u := u) (by simp [h]) (by simp [bset]) (fun x hx => by simp [bset, hx]) range7_nodup (range7.mpr hu)
theorem unset_start : unset (fun _ => none) = 7 := rfl
theorem DInv.pend {e : Edg} {start : Nat} {best : Nat → Option Int} {ks : List (Int × Int)} {v : Nat} {pend pend' : Nat → Int → Prop} (D : DInv e start best ks v pend) (h : ∀ w l, pend w l → pend' w l) : DInv e start best ks v pend' :=
  ⟨D.settled, D.entries, fun u d w l h1 h2 h3 => (D.front u d w l h1 h2 h3).imp (fun ⟨e, q⟩ => ⟨e, h _ _ q⟩) id, D.first⟩
theorem ne_tl {φ : Phi} {a b : Addr} {xs ys} (h : φ a = some (.tup xs)) (k : φ b = some (.lst ys)) : a ≠ b := fun e => by rw [e, k] at h; cases h
theorem ne_cl {φ : Phi} {a b : Addr} {x ys} (h : φ a = some (.cell x)) (k : φ b = some (.lst ys)) : a ≠ b := fun e => by rw [e, k] at h; cases h
theorem ne_ct {φ : Phi} {a b : Addr} {x ys} (h : φ a = some (.cell x)) (k : φ b = some (.tup ys)) : a ≠ b := fun e => by rw [e, k] at h; cases h
section
variable {C : Cx} {d : Nat} {L : Addr} {m : Frm} {φ : Phi} {Q : Value → Frm → Phi → Prop}
theorem Op_neN {i j : Nat} (h : Q (.bool (i != j)) m φ) : Op2 C d L (compareOp .NotEq) (.int (i : Int) 0) (.int (j : Int) 0) Q m φ := Op_ne (by
  have : ((i : Int) != (j : Int)) = (i != j) := by rw [Bool.eq_iff_iff]; simp [Int.ofNat_inj]
  rw [this]; exact h)
theorem Op_is_int {i : Int} (h : Q (.bool false) m φ) : Op2 C d L (compareOp .Is) (.int i 0) .none Q m φ := Op_is_ov (x := some i) h
theorem Op_isnot_int {i : Int} (h : Q (.bool true) m φ) : Op2 C d L (compareOp .IsNot) (.int i 0) .none Q m φ := Op_isnot_ov (x := some i) h
end
section
variable {C : Cx} {d : Nat} {env : Env}
theorem T_triples {t : Addr} {u v w : Value} {e1 e2 e3 : Expr} {k pos} {m : Frm} {φ : Phi} {Q : Frm → Phi → Prop} (ht : φ t = some (.tup [u, v, w])) (h : Ag C d env e1 u (Ag C d env e2 v (Ag C d env e3 w Q)) m φ)
    (he : assignEach [e1, e2, e3] env = [(false, assign e1 env), (false, assign e2 env), (false, assign e3 env)] := by rfl) : Ag C d env (.Tuple [e1, e2, e3] k pos) (.ref t) Q m φ := fun u eu => .raw fun ρ A s ro F => by
  rw [er_ref eu]
  obtain ⟨items, n, q, r, sz⟩ := F.tup ht
  obtain ⟨a, b, c, e, ea, eb, ec⟩ := ex3 r
  refine wpAny_assign_Tuple ro.1 (items := items) ⟨_, q, rfl, n, rfl⟩ (by rw [he, sz]; rfl) (by rw [he]; rfl) fun h' hx => ?_
  rw [he, e]
  have K : ∀ b o, s.heap.get? b = some o → h'.get? b = some o := fun b o e => hx b o (Nat.ne_of_lt (Heap.lt_size e)) e
  have F' := F.keep (tk := s.toks) K
  show wpAny _ _ (do holding [b, c] (assign e1 env a); assignInOrder [assign e2 env, assign e3 env] [b, c]) _ _ _
  refine wpAny_bind (wpAny_holding ((h a ea).then ro F' fun _ m2 φ2 s2 F2 q2 => ?_))
  show wpAny _ _ (do holding [c] (assign e2 env b); assignInOrder [assign e3 env] [c]) _ _ _
  refine wpAny_bind (wpAny_holding ((q2 b eb).then ro F2 fun _ m3 φ3 s3 F3 q3 => ?_))
  show wpAny _ _ (do holding [] (assign e3 env c); assignInOrder [] []) _ _ _
  refine wpAny_bind (wpAny_holding ((q3 c ec).then ro F3 fun _ m4 φ4 s4 F4 q4 => ?_))
  exact wpAny_pure ⟨m4, φ4, F4, q4⟩
end
/-- all is kept but the rows -/
def LeB (r : Nat → Addr) (φ ψ : Phi) : Prop := ∀ x o, φ x = some o → (∀ i, i < 7 → x ≠ r i) → ψ x = some o
theorem LeB.refl (r) (φ : Phi) : LeB r φ φ := fun _ _ h _ => h
theorem LeB.look {r} {φ ψ : Phi} {x o} (h : φ x = some o) (ne : ∀ i, i < 7 → x ≠ r i) (k : LeB r φ ψ) : ψ x = some o := k x o h ne
theorem LeB.upd {r} {φ ψ : Phi} {i : Nat} {o} (k : LeB r φ ψ) (hi : i < 7) : LeB r φ (Mine.upd ψ (r i) o) := fun x y h ne => upd_ne (ne i hi) (k x y h ne)
theorem LeB.le {r} {φ ψ χ : Phi} (k : LeB r φ ψ) (h : Le ψ χ) : LeB r φ χ := fun x y e ne => h _ _ (k x y e ne)
theorem LeB.of {r} {φ ψ χ : Phi} (h : Le φ ψ) (k : LeB r ψ χ) : LeB r φ χ := fun x y e ne => k x y (h _ _ e) ne
theorem T_same {C : Cx} {d : Nat} {env : Env} {e : Expr} {Q : Bool → Frm → Phi → Prop} {m : Frm} {φ : Phi} {b : Bool} (h : T C d env e (fun c m' φ' => c = b ∧ m' = m ∧ φ' = φ) m φ) (k : Q b m φ) : T C d env e Q m φ :=
  B.mono h fun c m' φ' ⟨e1, e2, e3⟩ => by subst e1; subst e2; subst e3; exact k
abbrev Quad := Addr × Nat × Nat × Int
def pr (q : Quad) : Nat × Nat := (q.2.1, q.2.2.1)
/-- the ways that a contraction is to set -/
structure Fresh (w : Gr) (v : Nat) (near S2 : List Nat) (FL : List Quad) (D : Nat → Nat → Prop) : Prop where
  hF : ∀ q ∈ FL, q.2.1 ∈ near ∧ q.2.2.1 ∈ near ∧ q.2.1 < q.2.2.1 ∧ q.2.2.2 = via w v q.2.1 q.2.2.1 ∧ ∀ k, Pth (EdW w S2) q.2.1 q.2.2.1 k → via w v q.2.1 q.2.2.1 < k
  hC : ∀ a b, D a b → a < b → (∃ q ∈ FL, q.2.1 = a ∧ q.2.2.1 = b) ∨ ∃ k, k ≤ via w v a b ∧ Pth (EdW w S2) a b k
theorem Fresh.push {w : Gr} {v : Nat} {near S2 : List Nat} {FL : List Quad} {D D' : Nat → Nat → Prop} (F : Fresh w v near S2 FL D) {t : Addr} {a b : Nat} (ha : a ∈ near) (hb : b ∈ near) (hlt : a < b) (hk : ∀ k, Pth (EdW w S2) a b k → via w v a b < k)
    (hD : ∀ i j, D' i j → D i j ∨ (i = a ∧ j = b)) : Fresh w v near S2 (FL ++ [(t, a, b, via w v a b)]) D' := by
  refine ⟨fun q hq => ?_, fun i j h hij => ?_⟩
  · rcases List.mem_append.mp hq with h | h
    · exact F.hF q h
    · rw [List.mem_singleton.mp h]; exact ⟨ha, hb, hlt, rfl, hk⟩
  · rcases hD i j h with h | ⟨rfl, rfl⟩
    · exact (F.hC i j h hij).imp (fun ⟨q, h1, h2⟩ => ⟨q, List.mem_append_left _ h1, h2⟩) id
    · exact .inl ⟨_, List.mem_append_right _ (.head _), rfl, rfl⟩
theorem Fresh.skip {w : Gr} {v : Nat} {near S2 : List Nat} {FL : List Quad} {D D' : Nat → Nat → Prop} (F : Fresh w v near S2 FL D) {a b : Nat} (h : ¬ a < b ∨ ∃ k, k ≤ via w v a b ∧ Pth (EdW w S2) a b k)
    (hD : ∀ i j, D' i j → D i j ∨ (i = a ∧ j = b)) : Fresh w v near S2 FL D' :=
  ⟨F.hF, fun i j h' hij => by
    rcases hD i j h' with h' | ⟨rfl, rfl⟩
    · exact F.hC i j h' hij
    · exact .inr (h.resolve_left fun q => q hij)⟩
theorem Fresh.mono {w : Gr} {v : Nat} {near S2 : List Nat} {FL : List Quad} {D D' : Nat → Nat → Prop} (F : Fresh w v near S2 FL D) (h : ∀ i j, D' i j → D i j) : Fresh w v near S2 FL D' := ⟨F.hF, fun i j h' => F.hC i j (h i j h')⟩
theorem app_v {w : Gr} {v : Nat} {fl : List (Nat × Nat)} (h : ∀ p ∈ fl, p.1 ≠ v ∧ p.2 ≠ v) (z : Nat) : app w v fl v z = w v z := by
  unfold app
  refine if_neg ?_
  rintro (q | q)
  · exact (h _ q).1 rfl
  · exact (h _ q).2 rfl
end Mine

namespace Mine
theorem PL.updO {φ : Phi} {a b : Addr} {ps xs ys} (h : PL φ a ps) (hb : φ b = some (.lst xs)) (hn : a ≠ b) : PL (upd φ b (.lst ys)) a ps := by
  obtain ⟨S, h1, h2, h3⟩ := h
  exact ⟨S, upd_ne hn h1, h2, fun q hq => upd_ne (ne_tl (h3 q hq) hb) (h3 q hq)⟩
theorem PL.leB {φ ψ : Phi} {a : Addr} {r ps wa w} (h : PL φ a ps) (T : Tab φ wa r w) (k : LeB r φ ψ) (hn : ∀ i, i < 7 → a ≠ r i) : PL ψ a ps := by
  obtain ⟨S, h1, h2, h3⟩ := h
  exact ⟨S, k.look h1 hn, h2, fun q hq => k.look (h3 q hq) fun i hi => ne_tl (h3 q hq) (T.row i hi)⟩
theorem Tab.rows_ne {φ : Phi} {a r t b xs} (T : Tab φ a r t) (hb : φ b = some (.lst xs)) : True := trivial
/-- fixed things of the stages -/
structure SP where
  c1 : Addr
  c2 : Addr
  wa : Addr
  fa : Addr
  la : Addr
  ha : Addr
  pa : Addr
  ua : Addr
  r : Nat → Addr
  rf : Nat → Addr
structure SDis (X : SP) (φ : Phi) : Prop where
  lh : X.la ≠ X.ha
  lp : X.la ≠ X.pa
  lu : X.la ≠ X.ua
  hp : X.ha ≠ X.pa
  hu : X.ha ≠ X.ua
  pu : X.pa ≠ X.ua
  l : φ X.la = none
  h : φ X.ha = none
  p : φ X.pa = none
  u : φ X.ua = none
  w : ∃ o, φ X.wa = some o
  f : ∃ o, φ X.fa = some o
  rw : ∀ i, i < 7 → ∃ o, φ (X.r i) = some o
  rf : ∀ i, i < 7 → ∃ o, φ (X.rf i) = some o
  rr : ∀ i, i < 7 → ∀ j, j < 7 → X.rf i ≠ X.r j
theorem ne_is {φ : Phi} {a b : Addr} (h : ∃ o, φ a = some o) (k : φ b = none) : a ≠ b := fun e => by
  obtain ⟨o, h⟩ := h
  rw [e, k] at h; cases h
structure SG (X : SP) (φ : Phi) (fi : Gr) (hs ps : List Value) (left : List Nat) (w : Gr) (ru : Nat → Addr) (up : Nat → List (Nat × Int)) (key : Key) (φ' : Phi) : Prop where
  c1 : φ' X.c1 = some (.cell (some (.ref X.wa)))
  c2 : φ' X.c2 = some (.cell (some (.ref X.la)))
  la : φ' X.la = some (.lst (nats left))
  ha : φ' X.ha = some (.lst hs)
  pa : φ' X.pa = some (.lst ps)
  T : Tab φ' X.wa X.r w
  Tf : Tab φ' X.fa X.rf fi
  A : Adj φ' X.ua ru up
  kh : ∀ v ∈ hs, IsP φ' v (key v)
  kp : ∀ v ∈ ps, IsP φ' v (key v)
  ru1 : ∀ i, i < 7 → ru i ≠ X.la
  ru2 : ∀ i, i < 7 → ru i ≠ X.ha
  ru3 : ∀ i, i < 7 → ru i ≠ X.pa
  ru4 : ∀ i, i < 7 → ru i ≠ X.ua
  ru5 : ∀ i, i < 7 → ∀ j, j < 7 → ru i ≠ X.r j
  lb : LeB X.r φ φ'
section
variable {X : SP} {φ : Phi} {fi : Gr} {hs ps hs' ps' : List Value} {left left' : List Nat} {w w' : Gr} {ru : Nat → Addr} {up : Nat → List (Nat × Int)} {key key' : Key} {φ' φ'' : Phi}
theorem LeB.set {r : Nat → Addr} {φ ψ : Phi} {a o} (k : LeB r φ ψ) (ha : φ a = none) : LeB r φ (Mine.upd ψ a o) := fun x y h ne => upd_ne (fun e => by rw [e, ha] at h; cases h) (k x y h ne)
theorem Tab.updX {t : Gr} {a b o} {r : Nat → Addr} (T : Tab φ' a r t) (ha : ∃ o, φ a = some o) (hr : ∀ i, i < 7 → ∃ o, φ (r i) = some o) (hb : φ b = none) : Tab (upd φ' b o) a r t := T.updO (ne_is ha hb) fun i hi => ne_is (hr i hi) hb
theorem SG.setP (S : SG X φ fi hs ps left w ru up key φ') (D : SDis X φ) (h : ∀ v ∈ ps', IsP φ' v (key v)) : SG X φ fi hs ps' left w ru up key (upd φ' X.pa (.lst ps')) :=
  ⟨upd_ne (ne_cl S.c1 S.pa) S.c1, upd_ne (ne_cl S.c2 S.pa) S.c2, upd_ne D.lp S.la, upd_ne D.hp S.ha, upd_same .., S.T.updX D.w D.rw D.p, S.Tf.updX D.f D.rf D.p, ⟨upd_ne (Ne.symm D.pu) S.A.own, fun i hi => (S.A.row i hi).updO S.pa (S.ru3 i hi)⟩,
    fun v hv => (S.kh v hv).updL S.pa, fun v hv => (h v hv).updL S.pa, S.ru1, S.ru2, S.ru3, S.ru4, S.ru5, S.lb.set D.p⟩
theorem SG.setH (S : SG X φ fi hs ps left w ru up key φ') (D : SDis X φ) (h : ∀ v ∈ hs', IsP φ' v (key v)) : SG X φ fi hs' ps left w ru up key (upd φ' X.ha (.lst hs')) :=
  ⟨upd_ne (ne_cl S.c1 S.ha) S.c1, upd_ne (ne_cl S.c2 S.ha) S.c2, upd_ne D.lh S.la, upd_same .., upd_ne (Ne.symm D.hp) S.pa, S.T.updX D.w D.rw D.h, S.Tf.updX D.f D.rf D.h, ⟨upd_ne (Ne.symm D.hu) S.A.own, fun i hi => (S.A.row i hi).updO S.ha (S.ru2 i hi)⟩,
    fun v hv => (h v hv).updL S.ha, fun v hv => (S.kp v hv).updL S.ha, S.ru1, S.ru2, S.ru3, S.ru4, S.ru5, S.lb.set D.h⟩
theorem SG.setL (S : SG X φ fi hs ps left w ru up key φ') (D : SDis X φ) : SG X φ fi hs ps left' w ru up key (upd φ' X.la (.lst (nats left'))) :=
  ⟨upd_ne (ne_cl S.c1 S.la) S.c1, upd_ne (ne_cl S.c2 S.la) S.c2, upd_same .., upd_ne (Ne.symm D.lh) S.ha, upd_ne (Ne.symm D.lp) S.pa, S.T.updX D.w D.rw D.l, S.Tf.updX D.f D.rf D.l, ⟨upd_ne (Ne.symm D.lu) S.A.own, fun i hi => (S.A.row i hi).updO S.la (S.ru1 i hi)⟩,
    fun v hv => (S.kh v hv).updL S.la, fun v hv => (S.kp v hv).updL S.la, S.ru1, S.ru2, S.ru3, S.ru4, S.ru5, S.lb.set D.l⟩
theorem refs_set {ru : Nat → Addr} {n : Nat} {a : Addr} (h : n < 7) : (refs ru).set n (.ref a) = refs (rset ru n a) := by
  match n, h with
  | 0, _ => rfl | 1, _ => rfl | 2, _ => rfl | 3, _ => rfl | 4, _ => rfl | 5, _ => rfl | 6, _ => rfl
theorem SG.setU (S : SG X φ fi hs ps left w ru up key φ') (D : SDis X φ) {v : Nat} {a : Addr} {adj : List (Nat × Int)} (hv : v < 7) (hP : PL φ' a adj) (h1 : a ≠ X.la) (h2 : a ≠ X.ha) (h3 : a ≠ X.pa) (h4 : a ≠ X.ua) (h5 : ∀ j, j < 7 → a ≠ X.r j) :
    SG X φ fi hs ps left w (rset ru v a) (fun u => if u = v then adj else up u) key (upd φ' X.ua (.lst ((refs ru).set v (.ref a)))) := by
  have e : ∀ {P : Addr → Prop}, P a → (∀ i, i < 7 → P (ru i)) → ∀ i, i < 7 → P (rset ru v a i) := fun {P} ha h i hi => by
    unfold rset
    by_cases q : i = v
    · rw [if_pos q]; exact ha
    · rw [if_neg q]; exact h i hi
  refine ⟨upd_ne (ne_cl S.c1 S.A.own) S.c1, upd_ne (ne_cl S.c2 S.A.own) S.c2, upd_ne D.lu S.la, upd_ne D.hu S.ha, upd_ne D.pu S.pa, S.T.updX D.w D.rw D.u, S.Tf.updX D.f D.rf D.u, ⟨by rw [upd_same, refs_set hv], fun i hi => ?_⟩,
    fun v hv => (S.kh v hv).updL S.A.own, fun v hv => (S.kp v hv).updL S.A.own, e (P := fun x => x ≠ X.la) h1 S.ru1, e (P := fun x => x ≠ X.ha) h2 S.ru2, e (P := fun x => x ≠ X.pa) h3 S.ru3, e (P := fun x => x ≠ X.ua) h4 S.ru4, e (P := fun x => ∀ j, j < 7 → x ≠ X.r j) h5 S.ru5, S.lb.set D.u⟩
  show PL _ (rset ru v a i) (if i = v then adj else up i)
  unfold rset
  by_cases q : i = v
  · rw [if_pos q, if_pos q]; exact hP.updO S.A.own h4
  · rw [if_neg q, if_neg q]; exact (S.A.row i hi).updO S.A.own (S.ru4 i hi)
theorem SG.le (S : SG X φ fi hs ps left w ru up key φ') (k : Le φ' φ'') : SG X φ fi hs ps left w ru up key φ'' :=
  ⟨k _ _ S.c1, k _ _ S.c2, k _ _ S.la, k _ _ S.ha, k _ _ S.pa, S.T.le k, S.Tf.le k, S.A.le k, fun v hv => (S.kh v hv).le k, fun v hv => (S.kp v hv).le k, S.ru1, S.ru2, S.ru3, S.ru4, S.ru5, S.lb.le k⟩
theorem IsP.leB {φ ψ : Phi} {r wa w v p} (h : IsP φ v p) (T : Tab φ wa r w) (k : LeB r φ ψ) : IsP ψ v p := let ⟨a, e, q⟩ := h; ⟨a, e, k.look q fun i hi => ne_tl q (T.row i hi)⟩
theorem SG.go (S : SG X φ fi hs ps left w ru up key φ') (D : SDis X φ) (k : LeB X.r φ' φ'') (T' : Tab φ'' X.wa X.r w') : SG X φ fi hs ps left w' ru up key φ'' := by
  have nr : ∀ {a}, φ a = none → ∀ i, i < 7 → a ≠ X.r i := fun h i hi => Ne.symm (ne_is (D.rw i hi) h)
  refine ⟨k.look S.c1 fun i hi => ne_cl S.c1 (S.T.row i hi), k.look S.c2 fun i hi => ne_cl S.c2 (S.T.row i hi), k.look S.la (nr D.l), k.look S.ha (nr D.h), k.look S.pa (nr D.p), T',
    ⟨k.look S.Tf.own fun i hi e => ?_, fun i hi => k.look (S.Tf.row i hi) fun j hj => D.rr i hi j hj⟩, ⟨k.look S.A.own (nr D.u), fun i hi => (S.A.row i hi).leB S.T k (S.ru5 i hi)⟩,
    fun v hv => (S.kh v hv).leB S.T k, fun v hv => (S.kp v hv).leB S.T k, S.ru1, S.ru2, S.ru3, S.ru4, S.ru5, fun x o h ne => k x o (S.lb x o h ne) ne⟩
  have h1 := S.Tf.own
  rw [e, S.T.row i hi] at h1
  have h2 : row (w i) = refs X.rf := AO.lst.inj (Option.some.inj h1)
  have h3 : at_ (row (w i)) 0 = at_ (refs X.rf) 0 := by rw [h2]
  rw [at_row (by decide), at_refs (by decide)] at h3
  cases e : w i 0 <;> rw [e] at h3 <;> cases h3
theorem SG.rekey (S : SG X φ fi hs ps left w ru up key φ') (h1 : ∀ v ∈ hs, key' v = key v) (h2 : ∀ v ∈ ps, key' v = key v) : SG X φ fi hs ps left w ru up key' φ' :=
  { S with kh := fun v hv => by rw [h1 v hv]; exact S.kh v hv, kp := fun v hv => by rw [h2 v hv]; exact S.kp v hv }
end
end Mine

namespace Mine
abbrev ivs (xs : List Int) : List Value := xs.map fun i => Value.int i 0
theorem ivs_inj : ∀ {xs ys : List Int}, ivs xs = ivs ys → xs = ys
  | [], [], _ => rfl
  | [], _ :: _, h => by cases h
  | _ :: _, [], h => by cases h
  | x :: xs, y :: ys, h => by
    have h1 := List.cons.inj h
    have h2 : Value.int x 0 = Value.int y 0 := h1.1
    rw [(Value.int.inj h2).1, ivs_inj h1.2]
theorem int_items {items : Array Value} {xs : List Int} (r : items.toList.map er = ivs xs) : ∃ ys, items = intItems ys ∧ ys.toList.map (fun p => p.1) = xs := by
  have : AllInts items := fun v hv => by
    have : er v ∈ ivs xs := by rw [← r]; exact List.mem_map_of_mem (Array.mem_toList_iff.mpr hv)
    obtain ⟨i, _, e⟩ := List.mem_map.mp this
    obtain ⟨t, e⟩ := er_int e.symm
    exact ⟨i, t, e⟩
  obtain ⟨ys, rfl⟩ := this.items
  refine ⟨ys, rfl, ivs_inj ?_⟩
  rw [← r]
  unfold intItems
  rw [Array.toList_map, List.map_map]
  show (ys.toList.map fun p => p.1).map _ = _
  rw [List.map_map]
  exact List.map_congr_left fun p _ => rfl
section
variable {C : Cx} {d : Nat} {L : Addr} {m : Frm} {φ : Phi} {Q : Value → Frm → Phi → Prop}
theorem CallV_minI {l : Addr} {xs : List Int} (hl : φ l = some (.lst (ivs xs))) (hne : xs ≠ []) (h : ∀ M ∈ xs, (∀ a ∈ xs, M ≤ a) → Q (.int M 0) m φ) : CallV C d L (.builtin "min") [.ref l] Q m φ := fun vs e => by
  obtain ⟨v, rfl, e'⟩ := ex1 e
  rw [er_ref e']
  refine .raw fun ρ A s ro F => ?_
  obtain ⟨items, n, q, r, sz, sz'⟩ := F.lst hl
  obtain ⟨ys, rfl, hy⟩ := int_items r
  have hsz : ys.size = xs.length := by rw [← hy, List.length_map, Array.length_toList]
  have hpos := List.length_pos_iff.mpr hne
  refine min_intList ro.1 (IsL.isList q) (by omega) fun v h' tk hv hk => ?_
  obtain ⟨t, rfl⟩ := intItems_at hv
  obtain ⟨h1, h2⟩ := argBest_lt (numAt ys) (ys.size - 1)
  have nat : ∀ i, i < ys.size → numAt ys i ∈ xs := fun i hi => by
    rw [← hy]
    refine List.mem_map.mpr ⟨ys[i], Array.mem_toList_iff.mpr (Array.getElem_mem hi), ?_⟩
    unfold numAt
    rw [Array.getElem?_eq_getElem hi]; rfl
  refine ⟨m, φ, F.keep hk, h _ (nat _ (by omega)) fun a ha => ?_⟩
  rw [← hy] at ha
  obtain ⟨p, hp, rfl⟩ := List.mem_map.mp ha
  obtain ⟨j, hj, e⟩ := List.getElem_of_mem hp
  have hj' : j < ys.size := by simpa using hj
  have e2 : numAt ys j = p.1 := by
    unfold numAt
    rw [Array.getElem?_eq_getElem hj']
    have : ys[j] = p := by simpa using e
    rw [this]; rfl
  rw [← e2]
  exact h2 j (by omega)
end
def sumsOf (f g : Nat → Option Int) (S : List Nat) : List Int := S.filterMap fun x => match f x, g x with | some p, some q => some (p + q) | _, _ => none
theorem mem_sumsOf {f g : Nat → Option Int} {S : List Nat} {k : Int} : k ∈ sumsOf f g S ↔ ∃ x ∈ S, ∃ p q, f x = some p ∧ g x = some q ∧ p + q = k := by
  unfold sumsOf
  rw [List.mem_filterMap]
  constructor
  · rintro ⟨x, hx, h⟩
    cases e1 : f x with
    | none => rw [e1] at h; cases h
    | some p =>
      cases e2 : g x with
      | none => rw [e1, e2] at h; cases h
      | some q => rw [e1, e2] at h; cases h; exact ⟨x, hx, p, q, e1, e2, rfl⟩
  · rintro ⟨x, hx, p, q, e1, e2, rfl⟩
    exact ⟨x, hx, by rw [e1, e2]⟩
theorem sums_take {f g : Nat → Option Int} {S : List Nat} {x : Nat} {p q : Int} (e1 : f x = some p) (e2 : g x = some q) : ivs (sumsOf f g S) ++ [.int (p + q) 0] = ivs (sumsOf f g (S ++ [x])) := by
  unfold sumsOf ivs
  rw [List.filterMap_append, List.map_append]
  simp [e1, e2]
theorem sums_skip {f g : Nat → Option Int} {S : List Nat} {x : Nat} (h : f x = none ∨ g x = none) : ivs (sumsOf f g S) = ivs (sumsOf f g (S ++ [x])) := by
  unfold sumsOf ivs
  rw [List.filterMap_append, List.map_append]
  rcases h with h | h
  · simp [h]
  · cases e : f x <;> simp [h, e]
end Mine

namespace Mine
theorem ints_er : ∀ {vs : List Value} {ns : List Int}, IntsAre vs ns → vs.map er = ivs ns
  | _, _, .nil => rfl
  | _, _, .cons n t h => by
    show _ :: _ = _ :: _
    rw [ints_er h]; rfl
/-- a list of numbers that was there before -/
structure BL (C : Cx) (l : Addr) (vs : List Value) (ns : List Int) : Prop where
  l : C.s₀.heap.IsList l vs.toArray
  i : IntsAre vs ns
  n : ns.length ≤ 63
structure BT (C : Cx) (l : Addr) (ns : List Int) : Prop where
  l : ∃ o items n, C.s₀.heap.get? l = some o ∧ o.cls = .type "tuple" ∧ o.data = .seq items n ∧ items.toList.map er = ivs ns
  n : ns.length ≤ 63
theorem BL.size {C : Cx} {l vs ns} (H : BL C l vs ns) : vs.toArray.size ≤ 63 := by
  have := H.i.length
  have := H.n
  simp only [List.size_toArray]; omega
theorem BL.at {C : Cx} {l vs ns} (H : BL C l vs ns) {h : Heap} (k : ∀ b o, C.s₀.heap.get? b = some o → h.get? b = some o) : h.IsList l vs.toArray := by
  obtain ⟨o, e, r⟩ := H.l
  exact ⟨o, k _ _ e, r⟩
section
variable {C : Cx} {d : Nat} {L : Addr} {m : Frm} {φ : Phi} {Q : Value → Frm → Phi → Prop}
theorem V_sumB {l : Addr} {vs ns} (H : BL C l vs ns) (h : ∀ i, Q (.int i 0) m φ) : CallV C d L (.builtin "sum") [.ref l] Q m φ := fun ws e => by
  obtain ⟨v, rfl, e'⟩ := ex1 e
  rw [er_ref e']
  refine .raw fun ρ A s ro F => ?_
  have hl := H.at F.stays
  obtain ⟨ys, hy, _⟩ := int_items (items := vs.toArray) (by rw [List.toList_toArray]; exact ints_er H.i)
  rw [hy] at hl
  exact sum_intListG ro.1 hl fun h' tk t' K => ⟨m, φ, F.keep K, h _⟩
theorem V_lenB {l : Addr} {vs ns} (H : BL C l vs ns) (h : ∀ n : Nat, n ≤ 63 → Q (.int (n : Int) 0) m φ) : CallV C d L (.builtin "len") [.ref l] Q m φ := fun ws e => by
  obtain ⟨v, rfl, e'⟩ := ex1 e
  rw [er_ref e']
  refine .raw fun ρ A s ro F => ?_
  have := H.size
  refine Calls.call_len_list (H.at F.stays) (by omega) ⟨m, φ, F.tok, ?_⟩
  exact h _ H.size
theorem V_listT {l : Addr} {ns} (H : BT C l ns) (h : ∀ a, φ a = none → Q (.ref a) m (upd φ a (.lst (ivs ns)))) : CallV C d L (.type "list") [.ref l] Q m φ := fun ws e => by
  obtain ⟨v, rfl, e'⟩ := ex1 e
  rw [er_ref e']
  refine .raw fun ρ A s ro F => ?_
  obtain ⟨o, items, n, ho, hc, hd, r⟩ := H.l
  have hsz : items.size ≤ 63 := by
    have := congrArg List.length r
    rw [List.length_map, List.length_map, Array.length_toList] at this
    have := H.n
    omega
  refine call_list_seq l (T := "tuple") (.inr rfl) (F.stays _ _ ho) hc hd (fun h' c' K hS => ?_) (by rw [sizeLine_eq]; omega)
  have hx : (ivs ns).length ≤ sizeLine := by rw [List.length_map, sizeLine_eq]; have := H.n; omega
  obtain ⟨n0, _, F'⟩ := F.alloc (x := .lst (ivs ns)) (tk := s.toks) K (Heap.get?_none_of_le (Nat.le_refl _)) ⟨items, c', hS, r, hx⟩
  exact ⟨m, _, F', h _ n0⟩
end
section
variable {C : Cx} {d : Nat} {env : Env} {m : Frm} {φ : Phi} {Q : Value → Frm → Phi → Prop}
theorem E_sliceB {l : Addr} {vs ns} (H : BL C l vs ns) {value k : Expr} {n : Nat} {kk pp p pos} (h : E C d env value (fun a m φ => a = .ref l ∧ E C d env k (fun b m φ => (∃ i, b = .int i 0) ∧ ∀ D xs, φ D = none → Q (.ref D) m (upd φ D (.lst (ivs xs)))) m φ) m φ)
    (ht : ∀ o r, letTemporaryGo value o r = pure ()) (hn : (n : Int) ≠ 0) :
    E C d env (.Subscript value (.Slice (some k) none (some (.Constant (.int (n : Int)) kk pp)) p) pos) Q m φ := .raw fun ρ A s ro F => by
  refine wpAny_Subscript_Slice_step (T := "list") list_getitem_lookup (h.then ro F fun v m' φ' s' F' q => ?_) ht
  obtain ⟨e, q⟩ := q
  rw [er_ref e]
  refine wpAny_Slice ?_
  rw [evalPart_some]
  refine q.then ro F' fun kv m2 φ2 s2 F2 q2 => ?_
  obtain ⟨⟨i, ei⟩, q2⟩ := q2
  obtain ⟨t, rfl⟩ := er_int ei
  rw [evalPart_none]
  refine wpAny_pure ?_
  rw [evalPart_some]
  refine wpAny_Constant_int ?_
  have F3 := F2.tok (tk := s2.toks + 1)
  have hl := H.at F3.stays
  refine ⟨(hl.push _).typeIs, wpAny_getItem_list_slice (hl.push _) (Heap.IsSliceOf.new ..) (.int i t) .none (.int (n : Int) _) (by intro e; cases e; exact hn rfl) ?_ (by have := H.size; rw [sizeLine_eq]; omega)⟩
  have hp := H.i.pick (some i) none (some (n : Int))
  have F4 := F3.keep (tk := s2.toks + 1) (h' := s2.heap.push { cls := .type "slice", data := .fields #[.int i t, .none, .int (n : Int) s2.toks] }) (fun _ _ e => Heap.get?_push_of_some _ e)
  have hsz : (ivs (pickNums ns (some i) none (some (n : Int)))).length ≤ sizeLine := by
    rw [List.length_map, sizeLine_eq]
    have := length_pickNums_le H.i (some i) none (some (n : Int))
    have := H.n
    omega
  obtain ⟨n0, _, F5⟩ := F4.push (tk := s2.toks + 1) (o := { cls := .type "list", data := .seq (slicePick vs.toArray (some i) none (some (n : Int))) }) (x := .lst (ivs (pickNums ns (some i) none (some (n : Int))))) ⟨_, 0, Heap.get?_push_size _ rfl, ints_er hp, hsz⟩
  exact ⟨m2, _, F5, q2 _ _ n0⟩
end
end Mine

namespace Mine
section
variable {C : Cx} {d : Nat} {A : Around} {E₀ : Value → Shared → Prop}

theorem codeAny_loop1 {elt target iter : Expr} {g0 : Comprehension} {scope : Scope} {pos : Pos} {it acc : Value} {env : Env} {prog : Program} {w : World} {A : Around} {R : Result → Shared → Prop} {s : Shared} (I : Nat → Shared → Prop)
    (turn : ∀ n s, I n s → wpAny (model prog w) A (pyNext it) (fun r s₁ => match r with
      | none => R (.ok .next) s₁
      | some v => wpAny (model prog w) A (assign target env v) (fun _ s₂ =>
          wpAny (model prog w) A (forIn ([] : List Expr) true fun c r => if r = true then do let ok ← isTrue c env (eval c env); pure (ForInStep.yield ok) else pure (ForInStep.yield r)) (fun ok s₃ =>
            if ok = true then wpAny (model prog w) A (eval elt env) (fun x s₄ =>
              wpAny (model prog w) A (call (.builtin "list.append") [acc, x]) (fun _ s₅ => ∃ m, m < n ∧ I m s₅) (notedBy (model prog w) A env fun e s' => R (.error e) s') s₄) (notedBy (model prog w) A env fun e s' => R (.error e) s') s₃
            else ∃ m, m < n ∧ I m s₃) (notedBy (model prog w) A env fun e s' => R (.error e) s') s₂) (notedBy (model prog w) A env fun e s' => R (.error e) s') s₁) (notedBy (model prog w) A env fun e s' => R (.error e) s') s)
    (n : Nat) (h : I n s) (ht : ∀ v, letOwnedTupleGo target it v = pure ()) :
    codeAny (model prog w) A (.compLoop (.ListComp elt [g0, ⟨target, iter, [], 0⟩] scope pos) 1 it acc env) R s := by
  refine codeAny_loop rfl I (fun n s hI => ?_) n h
  show wpAny _ A ((compTurn (.ListComp elt [g0, ⟨target, iter, [], 0⟩] scope pos) 1 it acc env).onRaise (fun x => do noteFrame x env; theTreesLotGoes x)) _ _ s
  refine wpAny_noted ?_
  have e : compTurn (.ListComp elt [g0, ⟨target, iter, [], 0⟩] scope pos) 1 it acc env = (do
      standAt iter.pos
      match ← pyNext it with
      | none => pure (.done .next)
      | some v =>
        letOwnedTupleGo target it v
        assign target env v
        let mut ok := true
        for c in ([] : List Expr) do
          if ok then ok ← isTrue c env (eval c env)
        if ok then
          (do let _ ← call (.builtin "list.append") [acc, ← eval elt env])
        again (.compLoop (.ListComp elt [g0, ⟨target, iter, [], 0⟩] scope pos) 1 it acc env)) := by rfl
  rw [e]
  refine wpAny_bind (wpAny_standAt (wpAny_bind (wpAny_mono (turn n s hI) (fun r s₁ h₁ => ?_) fun _ _ h' => h')))
  cases r with
  | none => exact wpAny_pure h₁
  | some v =>
    refine wpAny_bind (wpAny_of_eq (ht v) ?_)
    refine wpAny_bind (wpAny_mono h₁ (fun _ s₂ h₂ => wpAny_bind (wpAny_mono h₂ (fun ok s₃ h₃ => ?_) fun _ _ h' => h')) fun _ _ h' => h')
    cases ok with
    | false => exact wpAny_pure ⟨rfl, h₃⟩
    | true =>
      exact wpAny_bind (wpAny_bind (wpAny_mono h₃ (fun x s₄ h₄ => wpAny_bind (wpAny_mono h₄ (fun _ s₅ h₅ => wpAny_pure (wpAny_pure ⟨rfl, h₅⟩)) fun _ _ h' => h')) fun _ _ h' => h'))
theorem codeAny_start1 {elt target iter : Expr} {g0 : Comprehension} {scope : Scope} {pos : Pos} {it acc : Value} {env : Env} {prog : Program} {w : World} {A : Around} {R : Result → Shared → Prop} {s : Shared}
    (h0 : codeAny (model prog w) A (.compLoop (.ListComp elt [g0, ⟨target, iter, [], 0⟩] scope pos) 1 it acc env) R s)
    (h : wpAny (model prog w) A (pyIter it) (fun it' s' => codeAny (model prog w) A (.compLoop (.ListComp elt [g0, ⟨target, iter, [], 0⟩] scope pos) 1 it' acc env) R s')
      (notedBy (model prog w) A env fun x s' => R (.error x) s') s) :
    codeAny (model prog w) A (.compStart (.ListComp elt [g0, ⟨target, iter, [], 0⟩] scope pos) 1 it acc env) R s := by
  refine codeAny_of_tree ?_
  show wpAny _ _ ((compStart (.ListComp elt [g0, ⟨target, iter, [], 0⟩] scope pos) 1 it acc env).onRaise (fun x => do noteFrame x env; standAt theWindowsPlace)) _ _ s
  refine wpAny_notedAt ?_
  unfold compStart
  show wpAny _ _ (ask >>= _) _ _ s
  refine wpAny_bind (wpAny_askSetting (wpAny_ite ?_))
  split
  · first
      | exact wpAny_bind (wpAny_pure (wpAny_pure (And.intro rfl h0)))
      | exact wpAny_pure (And.intro rfl h0)
  · first
      | exact wpAny_bind (wpAny_rule (wpAny_bind (wpAny_standAt (wpAny_bind (wpAny_mono h (fun it' s' h' => wpAny_pure (And.intro rfl h')) fun _ _ x => x)))))
      | (refine wpAny_bind (wpAny_rule ?_); show wpAny _ _ (standAt iter.pos >>= _) _ _ s; exact wpAny_bind (wpAny_standAt (wpAny_bind (wpAny_mono h (fun it' s' h' => wpAny_pure (And.intro rfl h')) fun _ _ x => x))))

structure CompI (C : Cx) (d : Nat) (ce : Env) (target elt : Expr) (κ : It) (xs : List Value) (J : Nat → List Value → Frm → Phi → Prop) : Prop where
  ok : ∀ k ys mc φ, J k ys mc φ → κ.ok xs φ
  le : ∀ k ys mc φ, J k ys mc φ → ys.length ≤ 10000
  turn : ∀ k v ys mc φ, xs[k]? = some v → J k ys mc φ → Ag C d ce target v (E C d ce elt (fun y mc φ => J (k + 1) (ys ++ [y]) mc φ)) mc φ
theorem code_inner {target elt iter : Expr} {g0 : Comprehension} {scope : Scope} {pos : Pos} {ce : Env} {κ : It} {xs : List Value} {J : Nat → List Value → Frm → Phi → Prop} (H : CompI C d ce target elt κ xs J)
    (ht : ∀ it v, letOwnedTupleGo target it v = pure ()) (ro : Room d A) {it D : Addr} {ρ : Phi} (hi : ρ it = none) (hD : ρ D = none) (hne : it ≠ D) {R : Result → Shared → Prop}
    (fin : ∀ ys mc φ s, J xs.length ys mc φ → FS C ce.locals mc φ (upd ρ D (.lst ys)) s → R (.ok .next) s) :
    ∀ (ys : List Value) (mc : Frm) (φ : Phi) (s : Shared), J 0 ys mc φ → FS C ce.locals mc φ (upd (upd ρ D (.lst ys)) it (κ.ao xs 0)) s →
      codeAny (model C.prog C.w) A (.compLoop (.ListComp elt [g0, ⟨target, iter, [], 0⟩] scope pos) 1 (.ref it) (.ref D) ce) R s := by
  intro ys mc φ s h0 F
  refine codeAny_loop1 (fun n s => ∃ k ys mc φ, k ≤ xs.length ∧ n = xs.length - k ∧ J k ys mc φ ∧ FS C ce.locals mc φ (upd (upd ρ D (.lst ys)) it (κ.ao xs k)) s) (fun n s hI => ?_) xs.length
    ⟨0, ys, mc, φ, Nat.zero_le _, rfl, h0, F⟩ (fun v => ht _ v)
  obtain ⟨k, ys, mc, φ, hk, rfl, hJ, F⟩ := hI
  have hy := H.le _ _ _ _ hJ
  by_cases he : k = xs.length
  · subst he
    exact next_end ro.1 F (upd_ne hne hi) (H.ok _ _ _ _ hJ) fun s' F' => fin ys mc φ s' hJ F'
  · have hlt : k < xs.length := by omega
    refine next_item F (H.ok _ _ _ _ hJ) (List.getElem?_eq_getElem hlt) fun u s' eu F' => ?_
    refine (H.turn k _ ys mc φ (List.getElem?_eq_getElem hlt) hJ u eu).then ro F' fun _ m2 φ2 s2 F2 q2 => ?_
    refine wpAny_tests_nil ?_
    rw [if_pos rfl]
    refine B.then q2 ro F2 fun y m4 φ4 s4 F4 q4 => ?_
    have F5 : FS C ce.locals m4 φ4 (upd (upd ρ it (κ.ao xs (k + 1))) D (.lst ys)) s4 := by rw [upd_comm hne]; exact F4
    obtain ⟨items, n, hl, r, sz⟩ := F5.satR
    have sz' : items.size = ys.length := arr_er_size r
    refine call_meets PySem.F.slot_list_append ⟨_, hl, rfl⟩ PySem.F.entry_list_append (PySem.F.args_list_append_2 _ _) (list_append D items n y (sz' ▸ sz)) ⟨hl, ?_⟩
    refine ⟨_, by omega, k + 1, ys ++ [er y], m4, φ4, hlt, rfl, q4, ?_⟩
    rw [← upd_comm hne]
    exact F5.setR (tk := s4.toks) (y := .lst (ys ++ [er y])) (fun b o hb e => (Heap.get?_update_other _ _ (Ne.symm hb)).trans e)
      ⟨_, _, IsL.update hl _, by rw [Array.toList_push, List.map_append, r]; rfl, by rw [List.length_append, List.length_singleton, sizeLine_eq]; omega⟩
structure CompO (C : Cx) (d : Nat) (ce : Env) (t0 t1 i1 elt : Expr) (κ : It) (xs : List Value) (J : Nat → List Value → Frm → Phi → Prop) : Prop where
  ok : ∀ k ys mc φ, J k ys mc φ → κ.ok xs φ
  turn : ∀ k v ys mc φ, xs[k]? = some v → J k ys mc φ → Ag C d ce t0 v (E C d ce i1 (fun u mc φ => ∃ κ1 xs1 J1, It.from κ1 xs1 u φ ∧ CompI C d ce t1 elt κ1 xs1 J1 ∧ J1 0 ys mc φ ∧ ∀ ys mc φ, J1 xs1.length ys mc φ → J (k + 1) ys mc φ)) mc φ
theorem codeAny_loop0 {elt t0 t1 iter i1 : Expr} {scope : Scope} {pos : Pos} {it acc : Value} {env : Env} {prog : Program} {w : World} {A : Around} {R : Result → Shared → Prop} {s : Shared} (I : Nat → Shared → Prop)
    (turn : ∀ n s, I n s → wpAny (model prog w) A (pyNext it) (fun r s₁ => match r with
      | none => R (.ok .next) s₁
      | some v => wpAny (model prog w) A (assign t0 env v) (fun _ s₂ =>
          wpAny (model prog w) A (eval i1 env) (fun x s₃ => wpAny (model prog w) A (pyIter x) (fun it1 s₄ =>
            codeAny (model prog w) A (.compStart (.ListComp elt [⟨t0, iter, [], 0⟩, ⟨t1, i1, [], 0⟩] scope pos) 1 it1 acc env) (fun r s₅ => r = .ok .next ∧ ∃ m, m < n ∧ I m s₅) s₄) (notedBy (model prog w) A env fun e s' => R (.error e) s') s₃) (notedBy (model prog w) A env fun e s' => R (.error e) s') s₂) (notedBy (model prog w) A env fun e s' => R (.error e) s') s₁) (notedBy (model prog w) A env fun e s' => R (.error e) s') s)
    (n : Nat) (h : I n s) (ht : ∀ v, letOwnedTupleGo t0 it v = pure ()) (hs : ∀ x, foldedSetIterable i1 env x = pure x) :
    codeAny (model prog w) A (.compLoop (.ListComp elt [⟨t0, iter, [], 0⟩, ⟨t1, i1, [], 0⟩] scope pos) 0 it acc env) R s := by
  refine codeAny_loop rfl I (fun n s hI => ?_) n h
  show wpAny _ A ((compTurn (.ListComp elt [⟨t0, iter, [], 0⟩, ⟨t1, i1, [], 0⟩] scope pos) 0 it acc env).onRaise (fun x => do noteFrame x env; theTreesLotGoes x)) _ _ s
  refine wpAny_noted ?_
  have e : compTurn (.ListComp elt [⟨t0, iter, [], 0⟩, ⟨t1, i1, [], 0⟩] scope pos) 0 it acc env = (do
      standAt iter.pos
      match ← pyNext it with
      | none => pure (.done .next)
      | some v =>
        letOwnedTupleGo t0 it v
        assign t0 env v
        let mut ok := true
        for c in ([] : List Expr) do
          if ok then ok ← isTrue c env (eval c env)
        if ok then
          let x ← eval i1 env
          standAt i1.pos
          let x ← foldedSetIterable i1 env x
          let _ ← runOwn (.compStart (.ListComp elt [⟨t0, iter, [], 0⟩, ⟨t1, i1, [], 0⟩] scope pos) 1 (← holding [x] (pyIter x)) acc env) env
          again (.compLoop (.ListComp elt [⟨t0, iter, [], 0⟩, ⟨t1, i1, [], 0⟩] scope pos) 0 it acc env)
        else again (.compLoop (.ListComp elt [⟨t0, iter, [], 0⟩, ⟨t1, i1, [], 0⟩] scope pos) 0 it acc env)) := by rfl
  rw [e]
  refine wpAny_bind (wpAny_standAt (wpAny_bind (wpAny_mono (turn n s hI) (fun r s₁ h₁ => ?_) fun _ _ h' => h')))
  cases r with
  | none => exact wpAny_pure h₁
  | some v =>
    refine wpAny_bind (wpAny_of_eq (ht v) ?_)
    refine wpAny_bind (wpAny_mono h₁ (fun _ s₂ h₂ => ?_) fun _ _ h' => h')
    refine wpAny_bind (wpAny_tests_nil ?_)
    refine wpAny_bind (wpAny_mono h₂ (fun x s₃ h₃ => ?_) fun _ _ h' => h')
    refine wpAny_bind (wpAny_standAt (wpAny_bind (wpAny_of_eq (hs x) ?_)))
    refine wpAny_bind (wpAny_holding (wpAny_mono h₃ (fun it1 s₄ h₄ => ?_) fun _ _ h' => h'))
    refine wpAny_bind ?_
    unfold runOwn
    refine wpAny_onRaise (wpAny_run (codeAny_mono h₄ fun r s₅ h₅ => ?_))
    obtain ⟨rfl, h₅⟩ := h₅
    exact wpAny_pure ⟨rfl, h₅⟩
theorem code_comp2 {t0 t1 elt iter i1 : Expr} {scope : Scope} {pos : Pos} {ce : Env} {κ : It} {xs : List Value} {J : Nat → List Value → Frm → Phi → Prop} (H : CompO C d ce t0 t1 i1 elt κ xs J)
    (ht : ∀ it v, letOwnedTupleGo t0 it v = pure ()) (ht1 : ∀ it v, letOwnedTupleGo t1 it v = pure ()) (hs : ∀ x, foldedSetIterable i1 ce x = pure x) (ro : Room d A) {it D : Addr} {ρ : Phi} (hi : ρ it = none) (hD : ρ D = none) (hne : it ≠ D) {R : Result → Shared → Prop}
    (fin : ∀ ys mc φ s, J xs.length ys mc φ → FS C ce.locals mc φ (upd ρ D (.lst ys)) s → R (.ok .next) s) :
    ∀ (mc : Frm) (φ : Phi) (s : Shared), J 0 [] mc φ → FS C ce.locals mc φ (upd (upd ρ D (.lst [])) it (κ.ao xs 0)) s →
      codeAny (model C.prog C.w) A (.compLoop (.ListComp elt [⟨t0, iter, [], 0⟩, ⟨t1, i1, [], 0⟩] scope pos) 0 (.ref it) (.ref D) ce) R s := by
  intro mc φ s h0 F
  refine codeAny_loop0 (fun n s => ∃ k ys mc φ, k ≤ xs.length ∧ n = xs.length - k ∧ J k ys mc φ ∧ FS C ce.locals mc φ (upd (upd ρ D (.lst ys)) it (κ.ao xs k)) s) (fun n s hI => ?_) xs.length
    ⟨0, [], mc, φ, Nat.zero_le _, rfl, h0, F⟩ (fun v => ht _ v) hs
  obtain ⟨k, ys, mc, φ, hk, rfl, hJ, F⟩ := hI
  by_cases he : k = xs.length
  · subst he
    exact next_end ro.1 F (upd_ne hne hi) (H.ok _ _ _ _ hJ) fun s' F' => fin ys mc φ s' hJ F'
  · have hlt : k < xs.length := by omega
    refine next_item F (H.ok _ _ _ _ hJ) (List.getElem?_eq_getElem hlt) fun u s' eu F' => ?_
    refine (H.turn k _ ys mc φ (List.getElem?_eq_getElem hlt) hJ u eu).then ro F' fun _ m2 φ2 s2 F2 q2 => ?_
    refine B.then q2 ro F2 fun x m3 φ3 s3 F3 q3 => ?_
    obtain ⟨κ1, xs1, J1, hf, HI, hJ1, hend⟩ := q3
    refine iter_of F3 hf rfl fun it1 s4 hi1 F4 => ?_
    have n1 : it1 ≠ it := fun q => by rw [q, upd_same] at hi1; cases hi1
    have n2 : it1 ≠ D := fun q => by
      rw [q, show upd (upd ρ D (.lst ys)) it (κ.ao xs (k + 1)) D = upd ρ D (.lst ys) D from if_neg (Ne.symm hne), upd_same] at hi1; cases hi1
    have n3 : ρ it1 = none := by
      rwa [show upd (upd ρ D (.lst ys)) it (κ.ao xs (k + 1)) it1 = upd ρ D (.lst ys) it1 from if_neg n1, show upd ρ D (.lst ys) it1 = ρ it1 from if_neg n2] at hi1
    rw [← upd_comm (φ := ρ) hne] at F4
    have loop := code_inner (iter := i1) (g0 := ⟨t0, iter, [], 0⟩) (scope := scope) (pos := pos) HI ht1 ro (ρ := upd ρ it (κ.ao xs (k + 1))) (it := it1) (D := D) (upd_ne n1 n3) (upd_ne (Ne.symm hne) hD) n2
      (R := fun r s₅ => r = .ok .next ∧ ∃ m, m < xs.length - k ∧ ∃ k ys mc φ, k ≤ xs.length ∧ m = xs.length - k ∧ J k ys mc φ ∧ FS C ce.locals mc φ (upd (upd ρ D (.lst ys)) it (κ.ao xs k)) s₅)
      (fun ys mc φ s' hJ' F' => ⟨rfl, _, by omega, k + 1, ys, mc, φ, hlt, rfl, hend _ _ _ hJ', by rw [upd_comm (φ := ρ) hne] at F'; exact F'⟩) ys m3 φ3 s4 hJ1 F4
    refine codeAny_start1 loop ?_
    cases κ1 with
    | list l => exact wpAny_pyIter_listiter F4.satR loop
    | range a c => exact wpAny_pyIter_rangeiter F4.satR loop
end
section
variable {C : Cx} {d : Nat} {env : Env} {m : Frm} {φ : Phi}
/-- the common road of a comprehension -/
theorem comp_road2 {target t1 i1 elt iter : Expr} {scope : Scope} {pos : Pos} {cl : List (Str × Addr)} {use : Option (Value → Sem Unit)} {Q : Value → Shared → Prop} {ρ : Phi} {A : Around} {s : Shared} (ro : Room d A) (F : FS C env.locals m φ ρ s)
    (hclos : closureFor scope env = pure cl) (hk : scope.kind = .function) (hnames : ∀ x ∈ scope.names, x.2 = .local → scope.names.lookup x.1 = some .local)
    (ht : ∀ it v, letOwnedTupleGo target it v = pure ()) (ht1 : ∀ it v, letOwnedTupleGo t1 it v = pure ()) (hs : ∀ x, foldedSetIterable iter env x = pure x) (hs1 : ∀ ce x, foldedSetIterable i1 ce x = pure x)
    (h : E C d env iter (fun v m φ => ∃ κ xs, κ.from xs v φ ∧ xs.length ≤ 10000 ∧ ∀ Cl, (∀ a, Cl ≤ a → φ a = none) → ∃ J, CompO C d (cenv scope env Cl cl) target t1 i1 elt κ xs J ∧ J 0 [] (fun _ => none) (cellsPhi (Cl + 1) scope.names φ) ∧
      ∀ ys mc φ' D s', J xs.length ys mc φ' → φ' D = none → ρ Cl = none → FS C env.locals m (upd φ' D (.lst ys)) (upd ρ Cl (.ns mc)) s' →
        compPost (model C.prog C.w) A (fun _ _ => False) use Q (.ref D) Cl (.ok .next) s') m φ) :
    wpAny (model C.prog C.w) A (comprehension (.ListComp elt [⟨target, iter, [], 0⟩, ⟨t1, i1, [], 0⟩] scope pos) scope env iter.pos (newList []) false (eval iter env) use) Q (fun _ _ => False) s := by
  refine wpAny_comprehension_free (g := ⟨target, iter, [], 0⟩) (gs := [⟨t1, i1, [], 0⟩]) rfl hs hclos hk hnames (B.then h ro F fun v m1 φ1 s1 F1 q1 => ?_)
  obtain ⟨κ, xs, hf, hx, q1⟩ := q1
  refine iter_of F1 hf rfl fun it s2 hi F2 => ?_
  refine wpAny_newList ?_ (Nat.zero_le _)
  have fresh2 : s2.heap.get? s2.heap.objs.size = none := Heap.get?_none_of_le (Nat.le_refl _)
  obtain ⟨hD, F3⟩ := F2.allocR (tk := s2.toks) (x := .lst []) (h' := s2.heap.push { cls := .type "list", data := .seq ([] : List Value).toArray }) (fun _ _ e => Heap.get?_push_of_some _ e) fresh2 ⟨#[], 0, Heap.get?_push_size _ rfl, rfl, Nat.zero_le _⟩
  have hDi : s2.heap.objs.size ≠ it := fun q => by rw [q, upd_same] at hD; cases hD
  generalize hh3 : s2.heap.push { cls := .type "list", data := .seq ([] : List Value).toArray } = H3 at F3 ⊢
  generalize hDa : s2.heap.objs.size = D at F3 hD hDi ⊢
  have hρD : ρ D = none := by rwa [show upd ρ it (κ.ao xs 0) D = ρ D from if_neg hDi] at hD
  refine newEnv_any fun ce hce => ?_
  have fresh3 : H3.get? H3.objs.size = none := Heap.get?_none_of_le (Nat.le_refl _)
  obtain ⟨hC, F4⟩ := F3.allocR (tk := s2.toks) (x := .ns (fun _ => none)) (a := H3.objs.size) (h' := H3.push { cls := .type "dict", data := .dict #[] }) (fun _ _ e => Heap.get?_push_of_some _ e) fresh3 ⟨fun _ => none, Heap.Ns.new .., fun _ => rfl⟩
  have hfr : ∀ a, H3.objs.size ≤ a → φ1 a = none := fun a ha => by
    have := (F3.st.fresh (a := a) (Heap.get?_none_of_le ha)).1
    have := (join_none this).1
    unfold upd at this
    by_cases hL : a = env.locals
    · subst hL; exact F3.none
    · rwa [if_neg hL] at this
  have hρL : upd (upd ρ it (κ.ao xs 0)) D (.lst []) env.locals = none := (F3.ap env.locals).resolve_left fun q => by rw [upd_same] at q; cases q
  have hLD : env.locals ≠ D := fun q => by rw [← q, upd_same] at hρL; cases hρL
  have hLi : env.locals ≠ it := fun q => by
    rw [show upd (upd ρ it (κ.ao xs 0)) D (.lst []) env.locals = upd ρ it (κ.ao xs 0) env.locals from if_neg hLD, ← q, upd_same] at hρL; cases hρL
  have hρL' : ρ env.locals = none := by
    rwa [show upd (upd ρ it (κ.ao xs 0)) D (.lst []) env.locals = upd ρ it (κ.ao xs 0) env.locals from if_neg hLD, show upd ρ it (κ.ao xs 0) env.locals = ρ env.locals from if_neg hLi] at hρL
  have F5 := F4.swap hρL hC
  have F6 := F5.cells scope.names _ φ1 s2.toks F5
  have hsz : (H3.push { cls := .type "dict", data := .dict #[] }).objs.size = H3.objs.size + 1 := Heap.size_push ..
  rw [show (({ s2 with heap := H3, toks := s2.toks } : Shared).heap.push { cls := .type "dict", data := .dict #[] }).objs.size = H3.objs.size + 1 from Heap.size_push ..] at F6
  generalize hCl : H3.objs.size = Cl at *
  have hlc : ce.locals = Cl := by rw [hce]; rfl
  have hcC : Cl ≠ D := fun q => by rw [q, upd_same] at hC; cases hC
  have hci : Cl ≠ it := fun q => by rw [show upd (upd ρ it (κ.ao xs 0)) D (.lst []) Cl = upd ρ it (κ.ao xs 0) Cl from if_neg hcC, q, upd_same] at hC; cases hC
  have hρC : ρ Cl = none := by
    rwa [show upd (upd ρ it (κ.ao xs 0)) D (.lst []) Cl = upd ρ it (κ.ao xs 0) Cl from if_neg hcC, show upd ρ it (κ.ao xs 0) Cl = ρ Cl from if_neg hci] at hC
  obtain ⟨J, HJ, h0, fin⟩ := q1 Cl hfr
  rw [List.forIn_nil]
  refine wpAny_pure ?_
  have hcenv : ({ ce with scope := relabel scope env } : Env) = cenv scope env Cl cl := by
    rw [hce]; rfl
  rw [hcenv, hlc]
  have hcl : (cenv scope env Cl cl).locals = Cl := rfl
  -- the hidden part, in the order that the loop wants
  have eρ : upd (upd (upd ρ it (κ.ao xs 0)) D (.lst [])) env.locals (.ns m1) = upd (upd (upd ρ env.locals (.ns m1)) D (.lst [])) it (κ.ao xs 0) := by
    rw [upd_comm (φ := upd ρ it (κ.ao xs 0)) (Ne.symm hLD), upd_comm (φ := ρ) (Ne.symm hLi), upd_comm (φ := upd ρ env.locals (.ns m1)) (Ne.symm hDi)]
  rw [eρ] at F6
  have loop := code_comp2 (iter := iter) (scope := scope) (pos := pos) HJ ht ht1 (hs1 _) ro (ρ := upd ρ env.locals (.ns m1)) (upd_ne (Ne.symm hLi) hi) (upd_ne (Ne.symm hLD) hρD) (Ne.symm hDi) (R := compPost (model C.prog C.w) A (fun _ _ => False) use Q (.ref D) Cl)
    (fun ys mc φ' s' hJ F' => by
      rw [hcl] at F'
      rw [upd_comm (φ := ρ) hLD] at F'
      have F7 := F'.swap (ρ := upd ρ D (.lst ys)) (upd_ne hcC hρC) (upd_ne hLD hρL')
      rw [upd_comm (φ := ρ) (Ne.symm hcC)] at F7
      obtain ⟨n1, _, F8⟩ := F7.toL (upd_ne (Ne.symm hcC) hρD)
      exact fin ys mc φ' D s' hJ n1 hρC F8) (fun _ => none) _ _ h0 (hcl ▸ F6)
  refine codeAny_compStart_list loop ?_
  cases κ with
  | list l => exact wpAny_pyIter_listiter F6.satR loop
  | range a c => exact wpAny_pyIter_rangeiter F6.satR loop

theorem E_ListComp2 {target t1 i1 elt iter : Expr} {scope : Scope} {pos : Pos} {cl : List (Str × Addr)} {Q : Value → Frm → Phi → Prop}
    (hclos : closureFor scope env = pure cl) (hk : scope.kind = .function) (hnames : ∀ x ∈ scope.names, x.2 = .local → scope.names.lookup x.1 = some .local)
    (ht : ∀ it v, letOwnedTupleGo target it v = pure ()) (ht1 : ∀ it v, letOwnedTupleGo t1 it v = pure ()) (hs : ∀ x, foldedSetIterable iter env x = pure x) (hs1 : ∀ ce x, foldedSetIterable i1 ce x = pure x)
    (h : E C d env iter (fun v m φ => ∃ κ xs, κ.from xs v φ ∧ xs.length ≤ 10000 ∧ ∀ Cl, (∀ a, Cl ≤ a → φ a = none) → ∃ J, CompO C d (cenv scope env Cl cl) target t1 i1 elt κ xs J ∧ J 0 [] (fun _ => none) (cellsPhi (Cl + 1) scope.names φ) ∧
      ∀ ys mc φ' D, J xs.length ys mc φ' → φ' D = none → Q (.ref D) m (upd φ' D (.lst ys))) m φ) :
    E C d env (.ListComp elt [⟨target, iter, [], 0⟩, ⟨t1, i1, [], 0⟩] scope pos) Q m φ := .raw fun ρ A s ro F => by
  rw [eval_ListComp]
  refine comp_road2 ro F hclos hk hnames ht ht1 hs hs1 (h.mono fun v m1 φ1 ⟨κ, xs, hf, hx, q⟩ => ⟨κ, xs, hf, hx, fun Cl hfr => ?_⟩)
  obtain ⟨J, HJ, h0, fin⟩ := q Cl hfr
  refine ⟨J, HJ, h0, fun ys mc φ' D s' hJ hD hC F' => ?_⟩
  obtain ⟨m', hn, _⟩ := F'.satR
  exact ⟨m', hn, fun h'' hs'' => ⟨m1, _, F'.dropR (tk := s'.toks) hC (fun b o hb e => (hs''.2 b hb).trans e), fin ys mc φ' D hJ hD⟩⟩
end
end Mine

namespace Mine
structure CompIG {α : Type} (C : Cx) (d : Nat) (ce : Env) (target elt : Expr) (κ : It) (S : List α) (g : α → Value) (J : List α → List Value → Frm → Phi → Prop) : Prop where
  ok : ∀ done ys mc φ, J done ys mc φ → κ.ok (S.map g) φ
  le : ∀ done ys mc φ, J done ys mc φ → ys.length ≤ 10000
  turn : ∀ done x rest ys mc φ, S = done ++ x :: rest → J done ys mc φ → Ag C d ce target (g x) (E C d ce elt (fun y mc φ => J (done ++ [x]) (ys ++ [y]) mc φ)) mc φ
theorem CompIG.to {α : Type} {C : Cx} {d : Nat} {ce : Env} {target elt : Expr} {κ : It} {S : List α} {g : α → Value} {J : List α → List Value → Frm → Phi → Prop} (H : CompIG C d ce target elt κ S g J) : CompI C d ce target elt κ (S.map g) (fun k => J (S.take k)) :=
  ⟨fun k => H.ok _, fun k => H.le _, fun k v ys mc φ hv hJ => by
    obtain ⟨x, hx, rfl⟩ := map_getE hv
    obtain ⟨e1, e2⟩ := take_done hx
    have := H.turn _ x _ ys mc φ e1 hJ
    rw [← e2] at this
    exact this⟩
structure CompOG {α : Type} (C : Cx) (d : Nat) (ce : Env) (t0 t1 i1 elt : Expr) (κ : It) (S : List α) (g : α → Value) (J : List α → List Value → Frm → Phi → Prop) : Prop where
  ok : ∀ done ys mc φ, J done ys mc φ → κ.ok (S.map g) φ
  turn : ∀ done x rest ys mc φ, S = done ++ x :: rest → J done ys mc φ → Ag C d ce t0 (g x) (E C d ce i1 (fun u mc φ => ∃ (κ1 : It) (S1 : List α) (g1 : α → Value) (J1 : List α → List Value → Frm → Phi → Prop), It.from κ1 (S1.map g1) u φ ∧ CompIG C d ce t1 elt κ1 S1 g1 J1 ∧ J1 [] ys mc φ ∧
    ∀ ys mc φ, J1 S1 ys mc φ → J (done ++ [x]) ys mc φ)) mc φ
theorem Ag.mono {C : Cx} {d : Nat} {env : Env} {t : Expr} {a : Value} {Q Q' : Frm → Phi → Prop} {m : Frm} {φ : Phi} (h : Ag C d env t a Q m φ) (k : ∀ m φ, Q m φ → Q' m φ) : Ag C d env t a Q' m φ := fun v e => B.mono (h v e) fun _ => k
theorem CompOG.to {α : Type} {C : Cx} {d : Nat} {ce : Env} {t0 t1 i1 elt : Expr} {κ : It} {S : List α} {g : α → Value} {J : List α → List Value → Frm → Phi → Prop} (H : CompOG C d ce t0 t1 i1 elt κ S g J) : CompO C d ce t0 t1 i1 elt κ (S.map g) (fun k => J (S.take k)) :=
  ⟨fun k => H.ok _, fun k v ys mc φ hv hJ => by
    obtain ⟨x, hx, rfl⟩ := map_getE hv
    obtain ⟨e1, e2⟩ := take_done hx
    refine (H.turn _ x _ ys mc φ e1 hJ).mono fun m φ h => B.mono h fun u m φ ⟨κ1, S1, g1, J1, h1, h2, h3, h4⟩ => ⟨κ1, S1.map g1, _, h1, h2.to, h3, fun ys mc φ h => ?_⟩
    rw [List.length_map, List.take_length] at h
    rw [e2]
    exact h4 ys mc φ h⟩
section
variable {C : Cx} {d : Nat} {env : Env} {m : Frm} {φ : Phi}
theorem E_LC2 {α : Type} {target t1 i1 elt iter : Expr} {scope sc : Scope} {pos : Pos} {cells : List (Str × Addr)} {Q : Value → Frm → Phi → Prop}
    (he : env.cells = cells) (hsc : env.scope = sc) (hg : env.globals = mainGlobals) (hb : env.builtins = builtinsNs)
    (h : E C d env iter (fun v m φ => ∃ (κ : It) (S : List α) (g : α → Value), κ.from (S.map g) v φ ∧ S.length ≤ 10000 ∧ ∀ Cl ce, (∀ a, Cl ≤ a → φ a = none) → Ce scope sc cells Cl ce → ∃ J, CompOG C d ce target t1 i1 elt κ S g J ∧ J [] [] (fun _ => none) (cellsPhi (Cl + 1) scope.names φ) ∧
      ∀ ys mc φ' D, J S ys mc φ' → φ' D = none → Q (.ref D) m (upd φ' D (.lst ys))) m φ)
    (hclos : (scope.names.all fun x => !(x.2 == .free) || (cells.lookup x.1).isSome) = true) (hk : scope.kind = .function) (hnames : ∀ x ∈ scope.names, x.2 = .local → scope.names.lookup x.1 = some .local)
    (ht : ∀ it v, letOwnedTupleGo target it v = pure ()) (ht1 : ∀ it v, letOwnedTupleGo t1 it v = pure ()) (hs : ∀ x, foldedSetIterable iter env x = pure x) (hs1 : ∀ ce x, foldedSetIterable i1 ce x = pure x) :
    E C d env (.ListComp elt [⟨target, iter, [], 0⟩, ⟨t1, i1, [], 0⟩] scope pos) Q m φ := by
  refine E_ListComp2 (closure_of (he ▸ hclos)) hk hnames ht ht1 hs hs1 (B.mono h fun v m φ ⟨κ, S, g, h1, h2, h3⟩ => ⟨κ, S.map g, h1, by rw [List.length_map]; exact h2, fun Cl hfr => ?_⟩)
  subst he
  obtain ⟨J, H, h0, fin⟩ := h3 Cl (cenv scope env Cl (closeL env.cells scope.names [])) hfr ⟨rfl, cenv_scope hsc, hg, hb, rfl⟩
  refine ⟨_, H.to, h0, fun ys mc φ' D hJ hD => fin ys mc φ' D ?_ hD⟩
  rw [List.length_map, List.take_length] at hJ
  exact hJ
theorem swap_false {y : Str} {py : Pos} {elt : Expr} {gs : List Comprehension} {scope : Scope} {pos : Pos} {line : Nat} {env : Env} {c : Addr} (K : Cel env y c) : swapsWith (.ListComp elt gs scope pos) (some (.Name y py)) line env = pure false := by
  show pure (env.blockKind == .function && env.kindOf y == some .local && py.line == pos.line && !(scope.names.any fun x => x.1 == y && (x.2 == .local || x.2 == .cell))) = _
  rw [K.k, show ((some NameKind.cell == some NameKind.local) : Bool) = false from rfl, Bool.and_false, Bool.false_and, Bool.false_and]
end
section
variable {C : Cx} {d : Nat} {L : Addr} {m : Frm} {φ : Phi} {Q : Value → Frm → Phi → Prop}
theorem Room.u2 {d : Nat} {A : Around} (h : Room d A) : A.in1.units < cLine := by
  have := h.u1
  simpa only [Around.in1_units] using this
theorem Op_in_none {l : Addr} {xs : List Value} (hl : φ l = some (.lst xs)) (hx : ∀ v ∈ xs, ∃ a ys, v = .ref a ∧ φ a = some (.lst ys)) (h : Q (.bool false) m φ) : Op2 C d L (compareOp .In) .none (.ref l) Q m φ := fun x y e e' => by
  rw [er_none e, er_ref e']
  refine .raw fun ρ A s ro F => ?_
  obtain ⟨items, n, q, r, sz, sz'⟩ := F.lst hl
  refine PySem.SeqAt.in_listAt (fun _ => false) (IsL.isList q) (fun y hy => ?_) ?_
  · obtain ⟨a, ys, e, ha⟩ := hx (er y) (by rw [← r]; exact List.mem_map_of_mem (Array.mem_toList_iff.mpr hy))
    obtain ⟨items2, n2, q2, _⟩ := F.lst ha
    rw [er_ref e]
    exact PySem.SeqAt.EqAt.list_none (IsL.isList q2) ro.u2
  · rw [show items.any (fun _ => false) = false by simp]
    exact ⟨m, φ, F, h⟩
theorem Op_in_false {l : Addr} {xs : List Value} (hl : φ l = some (.lst xs)) (hx : ∀ v ∈ xs, v = .bool true) (h : Q (.bool false) m φ) : Op2 C d L (compareOp .In) (.bool false) (.ref l) Q m φ := fun x y e e' => by
  rw [er_bool e, er_ref e']
  refine .raw fun ρ A s ro F => ?_
  obtain ⟨items, n, q, r, sz, sz'⟩ := F.lst hl
  refine PySem.SeqAt.in_listAt (fun _ => false) (IsL.isList q) (fun y hy => ?_) ?_
  · have e := hx (er y) (by rw [← r]; exact List.mem_map_of_mem (Array.mem_toList_iff.mpr hy))
    rw [er_bool e]
    exact PySem.SeqAt.EqAt.bool_bool true false
  · rw [show items.any (fun _ => false) = false by simp]
    exact ⟨m, φ, F, h⟩
end
theorem lst_updC {φ : Phi} {l c : Addr} {xs v x} (h : φ l = some (.lst xs)) (hc : φ c = some (.cell v)) : upd φ c x l = some (.lst xs) := upd_ne (Ne.symm (ne_cl hc h)) h
theorem Tab.updC {φ : Phi} {a r t c v x} (T : Tab φ a r t) (hc : φ c = some (.cell v)) : Tab (upd φ c x) a r t := ⟨lst_updC T.own hc, fun i hi => lst_updC (T.row i hi) hc⟩
theorem PL.updC {φ : Phi} {a c ps v x} (h : PL φ a ps) (hc : φ c = some (.cell v)) : PL (upd φ c x) a ps := by
  obtain ⟨S, h1, h2, h3⟩ := h
  exact ⟨S, lst_updC h1 hc, h2, fun q hq => upd_ne (Ne.symm (ne_ct hc (h3 q hq))) (h3 q hq)⟩
theorem Adj.updC {φ : Phi} {a r t c v x} (T : Adj φ a r t) (hc : φ c = some (.cell v)) : Adj (upd φ c x) a r t := ⟨lst_updC T.own hc, fun i hi => (T.row i hi).updC hc⟩
end Mine

namespace Mine
-- the walk's own lines
local macro_rules | `(tactic| walk_at "lkm") => `(tactic| first
  | with_reducible assumption
  | with_reducible exact fset_same _ _ _
  | (with_reducible refine fset_ne (by decide +kernel) ?_; walk_at "lkm"))
local macro_rules | `(tactic| walk_at "ne") => `(tactic| first
  | with_reducible assumption
  | with_reducible exact Ne.symm (by assumption)
  | with_reducible exact ne_of_fresh (by assumption) (by assumption)
  | with_reducible exact Ne.symm (ne_of_fresh (by assumption) (by assumption))
  | with_reducible exact ne_of_fresh (by with_reducible assumption) (by walk_at "lkp")
  | with_reducible exact Ne.symm (ne_of_fresh (by with_reducible assumption) (by walk_at "lkp")))
local macro_rules | `(tactic| walk_at "le") => `(tactic| first
  | with_reducible assumption
  | with_reducible exact Le.refl _
  | (with_reducible refine Le.set ?_ (by with_reducible assumption); walk_at "le")
  | (with_reducible refine Le.alloc ?_ (by with_reducible assumption); walk_at "le"))
local macro_rules | `(tactic| walk_at "tab") => `(tactic| first
  | with_reducible assumption
  | with_reducible exact Tab.le (by with_reducible assumption) (by walk_at "le"))
local macro_rules | `(tactic| walk_at "lkp") => `(tactic| first
  | with_reducible assumption
  | with_reducible exact upd_same _ _ _
  | (with_reducible refine upd_old (by with_reducible assumption) ?_; walk_at "lkp")
  | (with_reducible refine upd_ne (by walk_at "ne") ?_; walk_at "lkp")
  | with_reducible exact Tab.own (by walk_at "tab")
  | with_reducible exact Tab.row (by walk_at "tab") _ (by walk_at "lt")
  | with_reducible exact Le.look (by with_reducible assumption) (by walk_at "le"))
local macro_rules | `(tactic| walk_at "lt") => `(tactic| first
  | with_reducible assumption
  | omega
  | (simp only [List.length_set, List.length_append, List.length_cons, List.length_nil, List.length_map, List.length_range]; omega))
local macro_rules | `(tactic| walk_at "goS") => `(tactic| first
  | ((with_reducible show S _ _ _ (Stmt.Assign [Expr.Name _ _] _ _) _ _ _); with_reducible refine A_local (by with_reducible assumption) ?_ (by with_unfolding_all rfl))
  | ((with_reducible show S _ _ _ (Stmt.Assign [Expr.Subscript _ _ _] _ _) _ _ _); with_reducible refine S_AssignSub ?_ (by with_unfolding_all rfl))
  | ((with_reducible show S _ _ _ (Stmt.If _ _ _ _) _ _ _); with_reducible refine S_If ?_)
  | ((with_reducible show S _ _ _ (Stmt.Return (some _) _) _ _ _); with_reducible refine S_Return ?_)
  | ((with_reducible show S _ _ _ (Stmt.Expr _ _) _ _ _); with_reducible refine S_Expr ?_ (by assumption) (by with_unfolding_all rfl))
  | ((with_reducible show S _ _ _ (Stmt.Break _) _ _ _); with_reducible refine S_Break ?_)
  | ((with_reducible show S _ _ _ (Stmt.Continue _) _ _ _); with_reducible refine S_Continue ?_))
local macro_rules | `(tactic| walk_at "goE") => `(tactic| first
  | ((with_reducible show E _ _ _ (Expr.Name _ _) _ _ _); first
    | with_reducible refine N_local (by with_reducible assumption) (by walk_at "lkm") ?_
    | with_reducible refine N_cell (by with_reducible assumption) (by walk_at "lkp") ?_
    | with_reducible refine N_free (by with_reducible assumption) (by walk_at "lkp") ?_)
  | ((with_reducible show E _ _ _ (Expr.Constant _ _ _) _ _ _); first
    | with_reducible refine E_int ?_
    | with_reducible refine E_none ?_
    | with_reducible refine E_bool ?_)
  | ((with_reducible show E _ _ _ (Expr.Subscript _ _ _) _ _ _); with_reducible refine E_Subscript ?_)
  | ((with_reducible show E _ _ _ (Expr.BinOp _ _ _ _) _ _ _); with_reducible refine E_BinOp ?_)
  | ((with_reducible show E _ _ _ (Expr.Call (Expr.Name _ _) _ _ _) _ _ _); first
    | with_reducible refine C_fn (by with_reducible assumption) (by with_reducible assumption) (by with_reducible assumption) ?_ (by simp) (by intro _; with_unfolding_all exact ⟨_, _, rfl⟩)
    | with_reducible refine C_blt (by with_reducible assumption) (by with_reducible assumption) ?_ (by intro _; with_unfolding_all exact ⟨_, _, rfl⟩) (by intro _; with_unfolding_all rfl)
    | with_reducible refine C_typ (by with_reducible assumption) (by with_reducible assumption) ?_ (by intro _; with_unfolding_all exact ⟨_, _, rfl⟩) (by intro _; with_unfolding_all rfl))
  | ((with_reducible show E _ _ _ (Expr.Compare _ [_] [_] _) _ _ _); with_reducible refine E_Compare ?_ (by with_unfolding_all rfl))
  | ((with_reducible show E _ _ _ (Expr.Tuple _ _ _) _ _ _); with_reducible refine E_Tuple ?_)
  | ((with_reducible show E _ _ _ (Expr.List _ _) _ _ _); with_reducible refine E_List ?_)
  | ((with_reducible show E _ _ _ (Expr.UnaryOp _ _ _) _ _ _); with_reducible refine E_UnaryOp ?_)
  | ((with_reducible show E _ _ _ (Expr.IfExp _ _ _ _) _ _ _); with_reducible refine E_IfExp ?_))
local macro_rules | `(tactic| walk_at "goT") => `(tactic| first
  | ((with_reducible show T _ _ _ (Expr.Compare _ [_] [_] _) _ _ _); with_reducible refine T_Compare ?_ (by with_unfolding_all rfl))
  | ((with_reducible show T _ _ _ (Expr.UnaryOp UnaryOp.Not _ _) _ _ _); with_reducible refine T_Not ?_)
  | ((with_reducible show T _ _ _ (Expr.BoolOp _ _ _) _ _ _); with_reducible refine T_BoolOp ?_)
  | ((with_reducible show T _ _ _ (Expr.Name _ _) _ _ _); with_reducible refine T_value ?_ (by with_unfolding_all rfl)))
local macro_rules | `(tactic| walk_at "goO") => `(tactic| first
  | ((with_reducible show Op2 _ _ _ (subscriptTail _ _) (Value.ref _) (Value.int _ _) _ _ _); first
    | with_reducible refine I_fst (by with_reducible assumption) ?_ (by intro _; with_unfolding_all rfl)
    | with_reducible refine I_snd (by with_reducible assumption) ?_ (by intro _; with_unfolding_all rfl)
    | with_reducible refine I_list0 (by with_reducible assumption) ?_ (by walk_at "lt") (by intro _; with_unfolding_all rfl)
    | with_reducible refine I_rowS (by with_reducible assumption) (by with_reducible assumption) ?_ (by walk_at "lt") (by intro _; with_unfolding_all rfl)
    | with_reducible refine I_row (by with_reducible assumption) ?_ (by walk_at "lt") (by intro _; with_unfolding_all rfl)
    | with_reducible refine I_refs (by walk_at "lkp") ?_ (by walk_at "lt") (by intro _; with_unfolding_all rfl)
    | with_reducible refine I_rowS (by walk_at "lkp") (by with_reducible assumption) ?_ (by walk_at "lt") (by intro _; with_unfolding_all rfl)
    | with_reducible refine I_row (by walk_at "lkp") ?_ (by walk_at "lt") (by intro _; with_unfolding_all rfl)
    | with_reducible refine I_list (by walk_at "lkp") ?_ (by walk_at "lt") (by intro _; with_unfolding_all rfl)
    | with_reducible refine I_fst (by walk_at "lkp") ?_ (by intro _; with_unfolding_all rfl)
    | with_reducible refine I_snd (by walk_at "lkp") ?_ (by intro _; with_unfolding_all rfl)
    | with_reducible refine I_list0 (by walk_at "lkp") ?_ (by walk_at "lt") (by intro _; with_unfolding_all rfl))
  | ((with_reducible show Op2 _ _ _ (binaryOp Operator.Add) _ _ _ _ _); first
    | with_reducible refine Op_succ ?_
    | with_reducible refine Op_add ?_)
  | ((with_reducible show Op2 _ _ _ (binaryOp Operator.Sub) _ _ _ _ _); first
    | with_reducible refine Op_pred ?_ (by walk_at "lt")
    | with_reducible refine Op_sub ?_)
  | ((with_reducible show Op2 _ _ _ (binaryOp Operator.Mult) (Value.int _ _) _ _ _ _); with_reducible refine Op_dbl ?_)
  | ((with_reducible show Op2 _ _ _ (binaryOp Operator.RShift) _ _ _ _ _); with_reducible refine Op_half ?_)
  | ((with_reducible show Op2 _ _ _ (binaryOp Operator.FloorDiv) _ _ _ _ _); with_reducible refine Op_half' ?_)
  | ((with_reducible show Op2 _ _ _ (compareOp CmpOp.Lt) _ _ _ _ _); first
    | with_reducible refine Op_ltN ?_
    | with_reducible refine Op_lt ?_
    | with_reducible refine Op_lt_pair (by with_reducible assumption) (by with_reducible assumption) ?_)
  | ((with_reducible show Op2 _ _ _ (compareOp CmpOp.Gt) _ _ _ _ _); first
    | with_reducible refine Op_gtN ?_
    | with_reducible refine Op_gt ?_)
  | ((with_reducible show Op2 _ _ _ (compareOp CmpOp.Eq) _ _ _ _ _); first
    | with_reducible refine Op_eq ?_
    | with_reducible refine Op_eq_ov ?_)
  | ((with_reducible show Op2 _ _ _ (compareOp CmpOp.NotEq) _ _ _ _ _); first
    | with_reducible refine Op_neN ?_
    | with_reducible refine Op_ne ?_
    | with_reducible refine Op_ne_ov ?_
    | with_reducible refine Op_ne_pair (by with_reducible assumption) (by with_reducible assumption) ?_)
  | ((with_reducible show Op2 _ _ _ (compareOp CmpOp.Is) _ _ _ _ _); first
    | with_reducible refine Op_is_ov ?_
    | with_reducible refine Op_is_ref ?_
    | with_reducible refine Op_is_int ?_)
  | ((with_reducible show Op2 _ _ _ (compareOp CmpOp.IsNot) _ _ _ _ _); first
    | with_reducible refine Op_isnot_none ?_
    | with_reducible refine Op_isnot_ov ?_
    | with_reducible refine Op_isnot_int ?_))
local macro_rules | `(tactic| walk_at "goX") => `(tactic| first
  | ((with_reducible show Ag _ _ _ (Expr.Name _ _) _ _ _ _); with_reducible refine G_local (by with_reducible assumption) ?_)
  | ((with_reducible show SetI _ _ _ _ _ _ _ _ _); first
    | with_reducible refine SetI_row (by walk_at "lkp") (ov_int _) ?_ (by walk_at "lt")
    | with_reducible refine SetI_at (by walk_at "lkp") ?_ (by walk_at "lt")
    | with_reducible refine SetI_at0 (by walk_at "lkp") ?_ (by walk_at "lt"))
  | ((with_reducible show CallV _ _ _ (Value.builtin "len") _ _ _ _); with_reducible refine V_len (by walk_at "lkp") ?_)
  | ((with_reducible show Tr _ _ _ (Value.bool _) _ _ _); with_reducible refine Tr_bool ?_)
  | ((with_reducible show Tr _ _ _ (Value.ref _) _ _ _); with_reducible refine Tr_list (by walk_at "lkp") ?_)
  | ((with_reducible show Ts _ _ _ BoolOp.And (_ :: _) _ _ _); with_reducible refine Ts_And_cons ?_)
  | ((with_reducible show Ts _ _ _ BoolOp.And [] _ _ _); with_reducible refine Ts_And_nil ?_)
  | ((with_reducible show Ts _ _ _ BoolOp.Or (_ :: _) _ _ _); with_reducible refine Ts_Or_cons ?_)
  | ((with_reducible show Ts _ _ _ BoolOp.Or [] _ _ _); with_reducible refine Ts_Or_nil ?_)
  | ((with_reducible show Tst _ _ _ [_] _ _ _); with_reducible refine Tst_one ?_)
  | ((with_reducible show Tst _ _ _ [] _ _ _); with_reducible refine Tst_nil ?_)
  | ((with_reducible show seqK _ _ _ _ _ _ _ _); first | with_reducible refine seqK_next ?_ | with_reducible refine seqK_ret ?_ | with_reducible refine seqK_brk ?_ | with_reducible refine seqK_cont ?_)
  | ((with_reducible show loopK _ _ _ _ _); first | with_reducible refine loopK_next ?_ | with_reducible refine loopK_ret ?_ | with_reducible refine loopK_brk ?_ | with_reducible refine loopK_cont ?_)
  | ((with_reducible show ifK _ _ _ _ _ _ _ _ _); first | with_reducible refine ifK_tt ?_ | with_reducible refine ifK_ff ?_)
  | ((with_reducible show andK _ _ _ _ _ _ _ _); first | with_reducible refine andK_tt ?_ | with_reducible refine andK_ff ?_)
  | ((with_reducible show orK _ _ _ _ _ _ _ _); first | with_reducible refine orK_tt ?_ | with_reducible refine orK_ff ?_)
  | ((with_reducible show expK _ _ _ _ _ _ _ _ _); first | with_reducible refine expK_tt ?_ | with_reducible refine expK_ff ?_)
  | ((with_reducible show if true = true then _ else _); with_reducible refine if_tt ?_)
  | ((with_reducible show if false = true then _ else _); with_reducible refine if_ff ?_))
local macro_rules | `(tactic| walk_at "go1") => `(tactic| first
  | ((with_reducible show E _ _ _ _ _ _ _); walk_at "goE")
  | ((with_reducible show Op2 _ _ _ _ _ _ _ _ _); walk_at "goO")
  | ((with_reducible show Ss _ _ _ (_ :: _) _ _ _); with_reducible refine Ss_cons ?_)
  | ((with_reducible show S _ _ _ _ _ _ _); walk_at "goS")
  | ((with_reducible show Ss _ _ _ [] _ _ _); with_reducible refine Ss_nil ?_)
  | ((with_reducible show T _ _ _ _ _ _ _); walk_at "goT")
  | ((with_reducible show Es _ _ _ (_ :: _) _ _ _); with_reducible refine Es_cons ?_ (by with_unfolding_all rfl))
  | ((with_reducible show Es _ _ _ [] _ _ _); with_reducible refine Es_nil ?_)
  | walk_at "goX")
local macro_rules | `(tactic| walk_at "go") => `(tactic| repeat' walk_at "go1")
local macro_rules | `(tactic| walk_at "loc") => `(tactic| exact loc_of (by assumption) (by decide +kernel))
local macro_rules | `(tactic| walk_at "glb") => `(tactic| exact glb_of (by assumption) (by assumption) (by assumption) (by decide +kernel))
local macro_rules | `(tactic| walk_at "lc") => `(tactic| first
  | (refine E_LC (α := Nat) (by assumption) (by assumption) (by assumption) (by assumption) ?_ (by rfl) (by rfl) (by decide +kernel) (by intro _ _; with_unfolding_all rfl) (by intro _; with_unfolding_all rfl); unfold CompH)
  | (refine S_LC (α := Nat) (by assumption) (by assumption) (by assumption) (by assumption) (by assumption) ?_ (swap_true (by assumption) (by assumption) (by decide +kernel)) (by rfl) (by rfl) (by decide +kernel) (by intro _ _; with_unfolding_all rfl) (by intro _; with_unfolding_all rfl); unfold CompH))

section
variable {C : Cx} {d : Nat} {φ : Phi} {f : Addr}
theorem siftdown_ok (G : Globs C) (H : FnOk C "_siftdown" f (fnP 5) (fnB 5) (fnS 5)) {l : Addr} {xs : List Value} {s p : Nat} {key : Key} (hl : φ l = some (.lst xs)) (hk : ∀ v ∈ xs, IsP φ v (key v)) (h : Hole key s xs p (at_ xs p)) :
    Ct C 1 f [.ref l, .int s 0, .int p 0] (fun v φ' => v = .none ∧ ∃ ys, ys.Perm xs ∧ HeapFrom key s ys ∧ φ' = upd φ l (.lst ys)) φ := by
  refine Ct_def3 G H (n1 := "heap") (n2 := "startpos") (n3 := "pos") (fun pm cd doc v1 v2 v3 => by rfl) (hk := by rfl) (hco := by rfl) (hgen := by rfl) fun L cd hL env he => ?_
  have hsc : env.scope = fnS 5 := by rw [he]; rfl
  have n1 : Loc env "heap" := by walk_at "loc"
  have n2 : Loc env "startpos" := by walk_at "loc"
  have n3 : Loc env "pos" := by walk_at "loc"
  have n4 : Loc env "newitem" := by walk_at "loc"
  have n5 : Loc env "parentpos" := by walk_at "loc"
  have n6 : Loc env "parent" := by walk_at "loc"
  refine Bind_local n1 (Bind_local n2 (Bind_local n3 (Bind_nil ?_)))
  show Ss _ _ _ (fnB 5) _ _ φ
  clear he
  conv in (fnB 5) => whnf
  have hp := h.lt
  walk_at "go"
  -- the while
  refine S_While (fun n m φ' => ∃ ys, m "heap" = some (.ref l) ∧ m "startpos" = some (.int (s : Int) 0) ∧ m "pos" = some (.int (n : Int) 0) ∧ m "newitem" = some (at_ xs p) ∧
    φ' = upd φ l (.lst ys) ∧ Hole key s ys n (at_ xs p) ∧ (ys.set n (at_ xs p)).Perm xs) p ⟨xs, by walk_at "lkm", by walk_at "lkm", by walk_at "lkm", by walk_at "lkm", (upd_self hl).symm, h, by rw [set_at hp]⟩ fun n m φ' hI => ?_
  obtain ⟨ys, m1, m2, m3, m4, rfl, hH, hP⟩ := hI
  have hp' := hH.lt
  have hlen : xs.length = ys.length := by rw [← hP.length_eq, List.length_set]
  have k1 : IsP (upd φ l (.lst ys)) (at_ xs p) (key (at_ xs p)) := (hk _ (at_mem hp)).updL hl
  walk_at "go"
  refine if_dec (fun hsp => ?_) fun hsp => ?_
  · have k2 : IsP (upd φ l (.lst ys)) (at_ ys ((n - 1) / 2)) (key (at_ ys ((n - 1) / 2))) := (hk _ (at_mem_set hP hp' (by omega) (by omega))).updL hl
    walk_at "go"
    refine if_dec (fun hlt => ?_) fun hlt => ?_
    · walk_at "go"
      refine ⟨(n - 1) / 2, by omega, ys.set n (at_ ys ((n - 1) / 2)), by walk_at "lkm", by walk_at "lkm", by walk_at "lkm", by walk_at "lkm", upd_upd .., hH.up hsp hlt, perm_move hp' (by omega) (by omega) hP⟩
    · walk_at "go"
      exact ⟨rfl, ys.set n (at_ xs p), hP, hH.fill fun _ => hlt, upd_upd ..⟩
  · walk_at "go"
    exact ⟨rfl, ys.set n (at_ xs p), hP, hH.fill fun h => absurd h hsp, upd_upd ..⟩
end

section
variable {C : Cx} {d : Nat} {φ : Phi} {f f5 f6 : Addr}
def suInv (φ : Phi) (l : Addr) (key : Key) (s : Nat) (xs : List Value) (n : Nat) (m : Frm) (φ' : Phi) : Prop := ∃ ys p, n = xs.length - p ∧ m "heap" = some (.ref l) ∧ m "startpos" = some (.int (s : Int) 0) ∧ m "endpos" = some (.int (xs.length : Int) 0) ∧
  m "pos" = some (.int (p : Int) 0) ∧ m "newitem" = some (at_ xs s) ∧ m "childpos" = some (.int ((2 * p + 1 : Nat) : Int) 0) ∧ φ' = upd φ l (.lst ys) ∧ Down key s ys p ∧ (ys.set p (at_ xs s)).Perm xs
theorem siftup_ok (G : Globs C) (H5 : FnOk C "_siftdown" f5 (fnP 5) (fnB 5) (fnS 5)) (H : FnOk C "_siftup" f (fnP 6) (fnB 6) (fnS 6)) (hlen : Blt C "len" (.builtin "len"))
    {l : Addr} {xs : List Value} {s : Nat} {key : Key} (hl : φ l = some (.lst xs)) (hk : ∀ v ∈ xs, IsP φ v (key v)) (h : HeapFrom key (s + 1) xs) (hs : s < xs.length) :
    Ct C 2 f [.ref l, .int s 0] (fun v φ' => v = .none ∧ ∃ ys, ys.Perm xs ∧ HeapFrom key s ys ∧ φ' = upd φ l (.lst ys)) φ := by
  refine Ct_def2 G H (n1 := "heap") (n2 := "pos") (fun pm cd doc v1 v2 => by rfl) (hk := by rfl) (hco := by rfl) (hgen := by rfl) fun L cd hL env he => ?_
  have hsc : env.scope = fnS 6 := by rw [he]; rfl
  have hgl : env.globals = mainGlobals := by rw [he]; rfl
  have hbl : env.builtins = builtinsNs := by rw [he]; rfl
  have n1 : Loc env "heap" := by walk_at "loc"
  have n2 : Loc env "startpos" := by walk_at "loc"
  have n3 : Loc env "pos" := by walk_at "loc"
  have n4 : Loc env "newitem" := by walk_at "loc"
  have n5 : Loc env "endpos" := by walk_at "loc"
  have n6 : Loc env "childpos" := by walk_at "loc"
  have n7 : Loc env "rightpos" := by walk_at "loc"
  have g1 : Glb env "len" := by walk_at "glb"
  have g2 : Glb env "_siftdown" := by walk_at "glb"
  have hi : interactive env = false := by rw [he]; rfl
  refine Bind_local n1 (Bind_local n3 (Bind_nil ?_))
  show Ss _ _ _ (fnB 6) _ _ φ
  clear he
  conv in (fnB 6) => whnf
  walk_at "go"
  -- the while
  refine S_While (suInv φ l key s xs) _ ⟨xs, s, rfl, by walk_at "lkm", by walk_at "lkm", by walk_at "lkm", by walk_at "lkm", by walk_at "lkm", by walk_at "lkm", (upd_self hl).symm, .start h hs, by rw [set_at hs]⟩ fun n m φ' hI => ?_
  obtain ⟨ys, p, rfl, m1, m2, m3, m4, m5, m6, rfl, hD, hP⟩ := hI
  have hp := hD.lt
  have hlen : xs.length = ys.length := by rw [← hP.length_eq, List.length_set]
  have hkey : ∀ j, j < ys.length → j ≠ p → IsP (upd φ l (.lst ys)) (at_ ys j) (key (at_ ys j)) := fun j hj hne => (hk _ (at_mem_set hP hp hj (Ne.symm hne))).updL hl
  have step : ∀ (c : Nat) (m : Frm), c < ys.length → (c = 2 * p + 1 ∨ c = 2 * p + 2) → (∀ c', (c' = 2 * p + 1 ∨ c' = 2 * p + 2) → c' < ys.length → ple (key (at_ ys c)) (key (at_ ys c'))) →
      m "heap" = some (.ref l) → m "startpos" = some (.int (s : Int) 0) → m "endpos" = some (.int (xs.length : Int) 0) → m "pos" = some (.int (c : Int) 0) → m "newitem" = some (at_ xs s) → m "childpos" = some (.int ((2 * c + 1 : Nat) : Int) 0) →
      ∃ n', n' < xs.length - p ∧ suInv φ l key s xs n' m (upd (upd φ l (.lst ys)) l (.lst (ys.set p (at_ ys c)))) :=
    fun c m hc hc2 hmin m1 m2 m3 m4 m5 m6 => ⟨xs.length - c, by omega, ys.set p (at_ ys c), c, rfl, m1, m2, m3, m4, m5, m6, upd_upd .., hD.step hc hc2 hmin, perm_move hp hc (by omega) hP⟩
  walk_at "go"
  refine if_dec (fun hc => ?_) fun hc => ?_
  · walk_at "go"
    refine if_dec (fun hr => ?_) fun hr => ?_
    · have k1 := hkey (2 * p + 1) (by omega) (by omega)
      have k2 := hkey (2 * p + 1 + 1) (by omega) (by omega)
      walk_at "go"
      refine if_ndec (fun hlt => ?_) fun hlt => ?_
      · walk_at "go"
        refine step (2 * p + 1 + 1) _ (by omega) (.inr rfl) (fun c' hc' hcl => ?_) (by walk_at "lkm") (by walk_at "lkm") (by walk_at "lkm") (by walk_at "lkm") (by walk_at "lkm") (by walk_at "lkm")
        rcases hc' with rfl | rfl
        · exact hlt
        · exact ple_refl _
      · walk_at "go"
        refine step (2 * p + 1) _ (by omega) (.inl rfl) (fun c' hc' hcl => ?_) (by walk_at "lkm") (by walk_at "lkm") (by walk_at "lkm") (by walk_at "lkm") (by walk_at "lkm") (by walk_at "lkm")
        rcases hc' with rfl | rfl
        · exact ple_refl _
        · exact ple_of_plt hlt
    · walk_at "go"
      refine step (2 * p + 1) _ (by omega) (.inl rfl) (fun c' hc' hcl => ?_) (by walk_at "lkm") (by walk_at "lkm") (by walk_at "lkm") (by walk_at "lkm") (by walk_at "lkm") (by walk_at "lkm")
      rcases hc' with rfl | rfl
      · exact ple_refl _
      · omega
  · walk_at "go"
    have hH : Hole key s (ys.set p (at_ xs s)) p (at_ xs s) := hD.hole (by omega)
    have e1 : at_ (ys.set p (at_ xs s)) p = at_ xs s := by rw [at_set hp, if_pos rfl]
    refine V_fn (siftdown_ok G H5 (φ := upd (upd φ l (.lst ys)) l (.lst (ys.set p (at_ xs s)))) (xs := ys.set p (at_ xs s)) (by walk_at "lkp") (fun v hv => ?_) (by rw [e1]; exact hH)) (Nat.le_refl _) fun v φ' hv => ?_
    · rw [upd_upd]
      exact (hk v (hP.mem_iff.mp hv)).updL hl
    · obtain ⟨rfl, zs, hz, hf, rfl⟩ := hv
      walk_at "go"
      exact ⟨rfl, zs, hz.trans hP, hf, by rw [upd_upd, upd_upd]⟩
end

/-- the heap's defs, and what they call -/
structure HeapFns (C : Cx) where
  g : Globs C
  f1 : Addr
  push : FnOk C "heappush" f1 (fnP 1) (fnB 1) (fnS 1)
  f2 : Addr
  pop : FnOk C "heappop" f2 (fnP 2) (fnB 2) (fnS 2)
  f3 : Addr
  replace : FnOk C "heapreplace" f3 (fnP 3) (fnB 3) (fnS 3)
  f4 : Addr
  ify : FnOk C "heapify" f4 (fnP 4) (fnB 4) (fnS 4)
  f5 : Addr
  down : FnOk C "_siftdown" f5 (fnP 5) (fnB 5) (fnS 5)
  f6 : Addr
  up : FnOk C "_siftup" f6 (fnP 6) (fnB 6) (fnS 6)
  len : Blt C "len" (.builtin "len")
  range : Blt C "range" (.type "range")
  reversed : Blt C "reversed" (.type "reversed")
section
variable {C : Cx} {d : Nat} {φ : Phi}
theorem heappush_ok (H : HeapFns C) {l : Addr} {xs : List Value} {x : Value} {key : Key} (hl : φ l = some (.lst xs)) (hk : ∀ v ∈ xs, IsP φ v (key v)) (hx : IsP φ x (key x)) (h : HeapFrom key 0 xs) (hn : xs.length ≤ 10000) :
    Ct C 2 H.f1 [.ref l, x] (fun v φ' => v = .none ∧ ∃ ys, ys.Perm (xs ++ [x]) ∧ HeapFrom key 0 ys ∧ φ' = upd φ l (.lst ys)) φ := by
  obtain ⟨G, f1, H1, f2, H2, f3, H3, f4, H4, f5, H5, f6, H6, hlen, hrange, hrev⟩ := H
  show Ct C 2 f1 _ _ _
  refine Ct_def2 G H1 (n1 := "heap") (n2 := "item") (fun pm cd doc v1 v2 => by rfl) (hk := by rfl) (hco := by rfl) (hgen := by rfl) fun L cd hL env he => ?_
  have hsc : env.scope = fnS 1 := by rw [he]; rfl
  have hgl : env.globals = mainGlobals := by rw [he]; rfl
  have hbl : env.builtins = builtinsNs := by rw [he]; rfl
  have n1 : Loc env "heap" := by walk_at "loc"
  have n2 : Loc env "item" := by walk_at "loc"
  have g1 : Glb env "len" := by walk_at "glb"
  have g2 : Glb env "_siftdown" := by walk_at "glb"
  have hi : interactive env = false := by rw [he]; rfl
  refine Bind_local n1 (Bind_local n2 (Bind_nil ?_))
  show Ss _ _ _ (fnB 1) _ _ φ
  clear he
  conv in (fnB 1) => whnf
  walk_at "go"
  refine E_append ?_ (by with_unfolding_all rfl) (by with_unfolding_all rfl) (by with_unfolding_all rfl)
  walk_at "go"
  refine ⟨l, rfl, ⟨xs, hl⟩, ?_⟩
  walk_at "go"
  refine ⟨xs, hl, hn, ?_⟩
  walk_at "go"
  have e1 : (((xs ++ [x]).length - 1 : Nat) : Int) = (xs.length : Int) := by simp
  rw [e1]
  have e2 : at_ (xs ++ [x]) xs.length = x := at_last
  refine V_fn (siftdown_ok G H5 (φ := upd φ l (.lst (xs ++ [x]))) (xs := xs ++ [x]) (s := 0) (key := key) (by walk_at "lkp") (fun v hv => ?_) (by rw [e2]; exact h.push_hole)) (Nat.le_refl _) fun v φ' hv => ?_
  · rcases List.mem_append.mp hv with hv | hv
    · exact (hk v hv).updL hl
    · rw [List.mem_singleton.mp hv]; exact hx.updL hl
  · obtain ⟨rfl, zs, hz, hf, rfl⟩ := hv
    walk_at "go"
    exact ⟨rfl, zs, hz, hf, by rw [upd_upd]⟩
theorem heappop_ok (H : HeapFns C) {l : Addr} {xs : List Value} {key : Key} (hl : φ l = some (.lst xs)) (hk : ∀ v ∈ xs, IsP φ v (key v)) (h : HeapFrom key 0 xs) (hne : xs ≠ []) :
    Ct C 3 H.f2 [.ref l] (fun v φ' => v = at_ xs 0 ∧ ∃ ys, (at_ xs 0 :: ys).Perm xs ∧ HeapFrom key 0 ys ∧ φ' = upd φ l (.lst ys)) φ := by
  obtain ⟨G, f1, H1, f2, H2, f3, H3, f4, H4, f5, H5, f6, H6, hlen, hrange, hrev⟩ := H
  show Ct C 3 f2 _ _ _
  refine Ct_def1 G H2 (n1 := "heap") (fun pm cd doc v1 => by rfl) (hk := by rfl) (hco := by rfl) (hgen := by rfl) fun L cd hL env he => ?_
  have hsc : env.scope = fnS 2 := by rw [he]; rfl
  have hgl : env.globals = mainGlobals := by rw [he]; rfl
  have hbl : env.builtins = builtinsNs := by rw [he]; rfl
  have n1 : Loc env "heap" := by walk_at "loc"
  have n2 : Loc env "lastelt" := by walk_at "loc"
  have n3 : Loc env "returnitem" := by walk_at "loc"
  have g2 : Glb env "_siftup" := by walk_at "glb"
  have hi : interactive env = false := by rw [he]; rfl
  refine Bind_local n1 (Bind_nil ?_)
  show Ss _ _ _ (fnB 2) _ _ φ
  clear he
  conv in (fnB 2) => whnf
  obtain ⟨zs, y, rfl⟩ : ∃ zs y, xs = zs ++ [y] := ⟨xs.dropLast, xs.getLast hne, (List.dropLast_concat_getLast hne).symm⟩
  walk_at "go"
  refine E_pop ?_ (by with_unfolding_all rfl) (by with_unfolding_all rfl)
  walk_at "go"
  refine ⟨l, zs, y, rfl, hl, ?_⟩
  walk_at "go"
  refine if_b (fun hb => ?_) fun hb => ?_
  · have hz : zs ≠ [] := by intro e; rw [e] at hb; cases hb
    have hz0 : 0 < zs.length := List.length_pos_iff.mpr hz
    walk_at "go"
    have hz1 : (zs.set 0 y).length = zs.length := List.length_set ..
    refine V_fn (siftup_ok G H5 H6 hlen (φ := upd (upd φ l (.lst zs)) l (.lst (zs.set 0 y))) (xs := zs.set 0 y) (s := 0) (key := key) (by walk_at "lkp") (fun v hv => ?_) ((h.pop).set0 hz0) (by omega)) (Nat.le_refl _) fun v φ' hv => ?_
    · rw [upd_upd]
      have : v ∈ zs ++ [y] := by
        rcases List.mem_or_eq_of_mem_set hv with hv | hv
        · exact List.mem_append_left _ hv
        · rw [hv]; exact List.mem_append_right _ (.head _)
      exact (hk v this).updL hl
    · obtain ⟨rfl, ys, hp, hf, rfl⟩ := hv
      walk_at "go"
      have e0 : at_ (zs ++ [y]) 0 = at_ zs 0 := at_append_left hz0
      rw [e0]
      refine ⟨rfl, ys, ?_, hf, by rw [upd_upd, upd_upd]⟩
      have h1 : (at_ zs 0 :: ys).Perm (at_ zs 0 :: zs.set 0 y) := hp.cons _
      have h2 : (at_ zs 0 :: zs.set 0 y).Perm (zs ++ [y]) := by
        cases zs with
        | nil => exact absurd rfl hz
        | cons z r =>
          show (z :: y :: r).Perm (z :: (r ++ [y]))
          exact ((List.perm_append_singleton y r).symm).cons z
      exact h1.trans h2
  · have hz : zs = [] := by cases zs with
      | nil => rfl
      | cons z r => cases hb
    subst hz
    walk_at "go"
    exact ⟨rfl, [], .refl _, .nil key, by simp⟩
theorem heapreplace_ok (H : HeapFns C) {l : Addr} {xs : List Value} {x : Value} {key : Key} (hl : φ l = some (.lst xs)) (hk : ∀ v ∈ xs, IsP φ v (key v)) (hx : IsP φ x (key x)) (h : HeapFrom key 0 xs) (hne : 0 < xs.length) :
    Ct C 3 H.f3 [.ref l, x] (fun v φ' => v = at_ xs 0 ∧ ∃ ys, (at_ xs 0 :: ys).Perm (x :: xs) ∧ HeapFrom key 0 ys ∧ φ' = upd φ l (.lst ys)) φ := by
  obtain ⟨G, f1, H1, f2, H2, f3, H3, f4, H4, f5, H5, f6, H6, hlen, hrange, hrev⟩ := H
  show Ct C 3 f3 _ _ _
  refine Ct_def2 G H3 (n1 := "heap") (n2 := "item") (fun pm cd doc v1 v2 => by rfl) (hk := by rfl) (hco := by rfl) (hgen := by rfl) fun L cd hL env he => ?_
  have hsc : env.scope = fnS 3 := by rw [he]; rfl
  have hgl : env.globals = mainGlobals := by rw [he]; rfl
  have hbl : env.builtins = builtinsNs := by rw [he]; rfl
  have n1 : Loc env "heap" := by walk_at "loc"
  have n2 : Loc env "item" := by walk_at "loc"
  have n3 : Loc env "returnitem" := by walk_at "loc"
  have g2 : Glb env "_siftup" := by walk_at "glb"
  have hi : interactive env = false := by rw [he]; rfl
  refine Bind_local n1 (Bind_local n2 (Bind_nil ?_))
  show Ss _ _ _ (fnB 3) _ _ φ
  clear he
  conv in (fnB 3) => whnf
  walk_at "go"
  have hz1 : (xs.set 0 x).length = xs.length := List.length_set ..
  refine V_fn (siftup_ok G H5 H6 hlen (φ := upd φ l (.lst (xs.set 0 x))) (xs := xs.set 0 x) (s := 0) (key := key) (by walk_at "lkp") (fun v hv => ?_) (h.set0 hne) (by omega)) (Nat.le_refl _) fun v φ' hv => ?_
  · rcases List.mem_or_eq_of_mem_set hv with hv | hv
    · exact (hk v hv).updL hl
    · rw [hv]; exact hx.updL hl
  · obtain ⟨rfl, ys, hp, hf, rfl⟩ := hv
    walk_at "go"
    refine ⟨rfl, ys, ?_, hf, by rw [upd_upd]⟩
    refine (hp.cons _).trans ?_
    cases xs with
    | nil => exact absurd hne (by simp)
    | cons z r => exact .swap _ _ _
def hfInv (l : Addr) (key : Key) (xs : List Value) (φ : Phi) (k : Nat) (m : Frm) (φ' : Phi) : Prop :=
  m "x" = some (.ref l) ∧ ∃ ys, φ' l = some (.lst ys) ∧ ys.Perm xs ∧ HeapFrom key (xs.length / 2 - k) ys ∧ Le (upd φ l (.lst ys)) φ'
theorem heapify_ok (H : HeapFns C) {l : Addr} {xs : List Value} {key : Key} (hl : φ l = some (.lst xs)) (hk : ∀ v ∈ xs, IsP φ v (key v)) (hn : xs.length ≤ 1000) :
    Ct C 3 H.f4 [.ref l] (fun v φ' => v = .none ∧ ∃ ys, ys.Perm xs ∧ HeapFrom key 0 ys ∧ φ' = upd φ l (.lst ys)) φ := by
  obtain ⟨G, f1, H1, f2, H2, f3, H3, f4, H4, f5, H5, f6, H6, hlen, hrange, hrev⟩ := H
  show Ct C 3 f4 _ _ _
  refine Ct.weak (P := fun v φ' => v = .none ∧ ∃ ys, ys.Perm xs ∧ HeapFrom key 0 ys ∧ Le (upd φ l (.lst ys)) φ') ?_ (fun v ψ ⟨e, ys, h1, h2, h3⟩ => ⟨_, h3, e, ys, h1, h2, rfl⟩)
  refine Ct_def1 G H4 (n1 := "x") (fun pm cd doc v1 => by rfl) (hk := by rfl) (hco := by rfl) (hgen := by rfl) fun L cd hL env he => ?_
  have hsc : env.scope = fnS 4 := by rw [he]; rfl
  have hgl : env.globals = mainGlobals := by rw [he]; rfl
  have hbl : env.builtins = builtinsNs := by rw [he]; rfl
  have n1 : Loc env "x" := by walk_at "loc"
  have n2 : Loc env "n" := by walk_at "loc"
  have n3 : Loc env "i" := by walk_at "loc"
  have g1 : Glb env "len" := by walk_at "glb"
  have g2 : Glb env "_siftup" := by walk_at "glb"
  have g3 : Glb env "reversed" := by walk_at "glb"
  have g4 : Glb env "range" := by walk_at "glb"
  have hi : interactive env = false := by rw [he]; rfl
  refine Bind_local n1 (Bind_nil ?_)
  show Ss _ _ _ (fnB 4) _ _ φ
  clear he
  conv in (fnB 4) => whnf
  walk_at "go"
  refine S_ForIt ?_ (by intro _; with_unfolding_all rfl)
  walk_at "go"
  refine V_range fun a ha => ?_
  walk_at "go"
  refine V_rev (by walk_at "lkp") (by omega) fun b hb => ?_
  have hlb : l ≠ b := ne_of_fresh hb (upd_old ha hl)
  have hb0 : φ b = none := (Le.alloc (Le.refl φ) ha).none hb
  have hrl : ((List.range (xs.length / 2)).map fun (i : Nat) => Value.int (((xs.length / 2 : Nat) : Int) - 1 + (i : Int) * (-1)) 0).length = xs.length / 2 := by rw [List.length_map, List.length_range]
  refine ⟨b, ((xs.length / 2 : Nat) : Int) - 1, -1, (List.range (xs.length / 2)).map (fun (i : Nat) => Value.int (((xs.length / 2 : Nat) : Int) - 1 + (i : Int) * (-1)) 0), hfInv l key xs φ, rfl, by rw [upd_same, hrl], by rw [hrl], by intro _ _; with_unfolding_all rfl, ⟨by walk_at "lkm", xs, ?_, .refl _, .half key xs, ?_⟩, fun k v m φ' hv hI => ?_, fun m φ' hI => ?_⟩
  · unfold del; rw [if_neg hlb]
    exact upd_ne hlb (upd_old ha hl)
  · rw [upd_self hl]
    exact ((Le.refl φ).alloc ha |>.alloc hb).del hb0
  · obtain ⟨m1, ys, hl', hP, hH, hle⟩ := hI
    have hk1 : k < xs.length / 2 := by
      have := (List.getElem?_eq_some_iff.mp hv).1
      simpa using this
    have hv' : v = .int ((xs.length / 2 - 1 - k : Nat) : Int) 0 := by
      rw [List.getElem?_map, List.getElem?_range hk1] at hv
      rw [← Option.some.inj hv]
      show Value.int (((xs.length / 2 : Nat) : Int) - 1 + (k : Int) * (-1)) 0 = _
      rw [show ((xs.length / 2 : Nat) : Int) - 1 + (k : Int) * (-1) = ((xs.length / 2 - 1 - k : Nat) : Int) by omega]
    subst hv'
    have hlen := hP.length_eq
    walk_at "go"
    have hm : xs.length / 2 - k = xs.length / 2 - 1 - k + 1 := by omega
    refine V_fn (siftup_ok G H5 H6 (by assumption) (key := key) hl' (fun v hv => ((hk v (hP.mem_iff.mp hv)).updL hl).le hle) (hm ▸ hH) (by omega)) (Nat.le_refl _) fun v φ'' hv => ?_
    obtain ⟨rfl, zs, hz, hf, rfl⟩ := hv
    walk_at "go"
    refine ⟨by walk_at "lkm", zs, by walk_at "lkp", hz.trans hP, ?_, ?_⟩
    · rw [show xs.length / 2 - (k + 1) = xs.length / 2 - 1 - k by omega]; exact hf
    · have := hle.upd (a := l) (x := .lst zs)
      rwa [upd_upd] at this
  · obtain ⟨m1, ys, hl', hP, hH, hle⟩ := hI
    rw [List.length_map, List.length_range, Nat.sub_self] at hH
    walk_at "go"
    exact ⟨rfl, ys, hP, hH, hle⟩
end

section
variable {C : Cx} {d : Nat} {φ : Phi} {f : Addr}
def deg (w : Gr) (left : List Nat) (v : Nat) : Nat := (left.filter fun x => (w v x).isSome && x != v).length
theorem degree_ok (G : Globs C) (H : FnOk C "_law_degree" f (fnP 14) (fnB 14) (fnS 14)) (hlen : Blt C "len" (.builtin "len"))
    {wa la : Addr} {r : Nat → Addr} {w : Gr} {left : List Nat} {v : Nat} (T : Tab φ wa r w) (hl : φ la = some (.lst (nats left))) (h7 : ∀ x ∈ left, x < 7) (hn : left.length ≤ 7) (hv : v < 7) :
    Ct C 1 f [.ref wa, .ref la, .int (v : Int) 0] (fun u φ' => u = .int (deg w left v : Nat) 0 ∧ φ' = φ) φ := by
  refine Ct.weak (P := fun u φ' => u = .int (deg w left v : Nat) 0 ∧ Le φ φ') ?_ (fun u ψ ⟨e, h⟩ => ⟨φ, h, e, rfl⟩)
  refine Ct_def3 G H (n1 := "ways") (n2 := "left") (n3 := "v") (fun pm cd doc v1 v2 v3 => by rfl) (hk := by rfl) (hco := by rfl) (hgen := by rfl) fun L cd hL env he => ?_
  have hsc : env.scope = fnS 14 := by rw [he]; rfl
  have hgl : env.globals = mainGlobals := by rw [he]; rfl
  have hbl : env.builtins = builtinsNs := by rw [he]; rfl
  have hce : env.cells = cellsFrom (L + 1) (fnS 14).names [] := by rw [he]; rfl
  have c1 : Cel env "ways" (L + 1) := cel_of hsc (by rw [hce]; rfl) (by decide +kernel)
  have c2 : Cel env "v" (L + 1 + 1) := cel_of hsc (by rw [hce]; rfl) (by decide +kernel)
  have n1 : Loc env "left" := by walk_at "loc"
  have g1 : Glb env "len" := by walk_at "glb"
  have hi : interactive env = false := by rw [he]; rfl
  have e1 := fr1 hL
  have e2 := fr2 hL
  have e3 : L + 1 ≠ L + 1 + 1 := fr12
  show Bind _ _ _ _ _ _ (upd (upd φ (L + 1) (.cell none)) (L + 1 + 1) (.cell none))
  refine Bind_cell c1 (by walk_at "lkp") (Bind_local n1 (Bind_cell c2 (by walk_at "lkp") (Bind_nil ?_)))
  show Ss _ _ _ (fnB 14) _ _ _
  rw [cells2 e3]
  clear he
  conv in (fnB 14) => whnf
  walk_at "go"
  walk_at "lc"
  walk_at "go"
  refine ⟨.list la, left, fun x => .int x 0, from_nats (by walk_at "lkp"), by omega, fun Cl ce hfr K => ?_⟩
  have k1 : Loc ce "w" := loc_of K.s (by decide +kernel)
  have k2 : Cel ce "ways" (L + 1) := cel_of K.s (by rw [K.c]; rfl) (by decide +kernel)
  have k3 : Cel ce "v" (L + 1 + 1) := cel_of K.s (by rw [K.c]; rfl) (by decide +kernel)
  clear K
  refine ⟨fun done ys mc φ' => ys = nats (done.filter fun x => (w v x).isSome && x != v) ∧ φ' = upd (upd φ (L + 1) (.cell (some (.ref wa)))) (L + 1 + 1) (.cell (some (.int (v : Int) 0))), ⟨fun done ys mc φ' hJ => ?_, fun done x rest ys mc φ' hS hJ => ?_⟩, ⟨rfl, rfl⟩, fun ys mc φ' D hJ hD => ?_⟩
  · obtain ⟨_, rfl⟩ := hJ
    exact ok_nats (by walk_at "lkp")
  · obtain ⟨rfl, rfl⟩ := hJ
    have hx : x < 7 := h7 x (by rw [hS]; simp)
    walk_at "go"
    refine if_some (fun y hy => ?_) (fun hn => ?_)
    · walk_at "go"



      refine if_b (fun hb => ?_) fun hb => ?_
      · walk_at "go"
        exact ⟨nats_take (by rw [hy]; exact hb), rfl⟩
      · walk_at "go"
        exact ⟨nats_skip (by rw [hy]; exact hb), rfl⟩
    · walk_at "go"
      exact ⟨nats_skip (by rw [hn]; rfl), rfl⟩
  · obtain ⟨rfl, rfl⟩ := hJ
    walk_at "go"
    refine ⟨?_, by walk_at "le"⟩
    rw [nats_len]; rfl
end

section
variable {C : Cx} {d : Nat} {φ : Phi} {f : Addr}
def zdiag (w : Gr) (done : List Nat) : Gr := fun i j => if i = j ∧ i ∈ done then some 0 else w i j
theorem zdiag_step (w : Gr) (done : List Nat) (v : Nat) : tset (zdiag w done) v v (some 0) = zdiag w (done ++ [v]) := by
  funext i j
  unfold tset zdiag
  by_cases h : i = v ∧ j = v
  · obtain ⟨rfl, rfl⟩ := h
    simp
  · rw [if_neg h]
    by_cases e : i = j
    · subst e
      have : i ≠ v := fun q => h ⟨q, q⟩
      simp [this]
    · simp [e]
theorem zdiag_nil (w : Gr) : zdiag w [] = w := by
  funext i j; unfold zdiag; simp
theorem FInv.of_zdiag {w : Gr} {S : List Nat} (G : Good w) : FInv (EdW w S) S (fun _ => False) (zdiag w S) := by
  refine ⟨fun a b d ha hb h => ?_, fun a b k ha hb p => ?_⟩
  · unfold zdiag at h
    by_cases e : a = b
    · subst e
      rw [if_pos ⟨rfl, ha⟩] at h
      cases h
      exact .nil _
    · rw [if_neg fun q => e q.1] at h
      exact .one ⟨h, ha, hb⟩
  · cases p with
    | nil => exact ⟨0, by unfold zdiag; rw [if_pos ⟨rfl, ha⟩], Int.le_refl _⟩
    | one q =>
      have : a ≠ b := fun e => by
        subst e
        have := q.1
        rw [G.diag] at this; cases this
      exact ⟨k, by unfold zdiag; rw [if_neg fun q => this q.1]; exact q.1, Int.le_refl _⟩
    | step _ h _ => exact h.elim
theorem walk_none {e : Edg} {a b k} (p : WalkI e (fun x => x ∈ ([] : List Nat)) a b k) : WalkI e (fun _ => False) a b k := by
  cases p with
  | nil => exact .nil _
  | one q => exact .one q
  | step _ h _ => cases h
theorem table_ok (G : Globs C) (H : FnOk C "_law_table" f (fnP 10) (fnB 10) (fnS 10)) (hlist : Blt C "list" (.type "list"))
    {wa pa : Addr} {r : Nat → Addr} {w : Gr} {S : List Nat} (T : Tab φ wa r w) (hp : φ pa = some (.lst (nats S))) (h7 : ∀ x ∈ S, x < 7) (gw : Good w) :
    Ct C 1 f [.ref wa, .ref pa] (fun u φ' => ∃ ta r' t, u = .ref ta ∧ Tab φ' ta r' t ∧ (∀ i, i < 7 → φ (r' i) = none) ∧ (∀ i j, i < 7 → j < 7 → r' i = r' j → i = j) ∧ Le φ φ' ∧ ∀ a ∈ S, ∀ b ∈ S, IsDist (EdW w S) a b (t a b)) φ := by
  refine Ct_def2 G H (n1 := "ways") (n2 := "places") (fun pm cd doc v1 v2 => by rfl) (hk := by rfl) (hco := by rfl) (hgen := by rfl) fun L cd hL env he => ?_
  have hsc : env.scope = fnS 10 := by rw [he]; rfl
  have hgl : env.globals = mainGlobals := by rw [he]; rfl
  have hbl : env.builtins = builtinsNs := by rw [he]; rfl
  have hce : env.cells = cellsFrom (L + 1) (fnS 10).names [] := by rw [he]; rfl
  have n1 : Loc env "ways" := by walk_at "loc"
  have n2 : Loc env "places" := by walk_at "loc"
  have n3 : Loc env "table" := by walk_at "loc"
  have n4 : Loc env "v" := by walk_at "loc"
  have n5 : Loc env "middle" := by walk_at "loc"
  have n6 : Loc env "a" := by walk_at "loc"
  have n7 : Loc env "b" := by walk_at "loc"
  have n8 : Loc env "through" := by walk_at "loc"
  have hi : interactive env = false := by rw [he]; rfl
  have hbk : env.blockKind = .function := by rw [he]; rfl
  show Bind _ _ _ _ _ _ φ
  refine Bind_local n1 (Bind_local n2 (Bind_nil ?_))
  show Ss _ _ _ (fnB 10) _ _ _
  clear he
  conv in (fnB 10) => whnf
  walk_at "go"
  walk_at "lc"
  walk_at "go"
  refine ⟨.list wa, List.range 7, fun i => .ref (r i), from_lst T.own, by decide, fun Cl ce hfr K => ?_⟩
  have k1 : Loc ce "row" := loc_of K.s (by decide +kernel)
  have k2 : Glb ce "list" := glb_of K.s K.g K.b (by decide +kernel)
  clear K
  refine ⟨fun done ys mc φ' => ∃ r', ys = done.map (fun i => .ref (r' i)) ∧ Bld (fun φ i a => φ a = some (.lst (row (w i)))) φ φ' done r', ⟨fun done ys mc φ' hJ => ?_, fun done x rest ys mc φ' hS hJ => ?_⟩, ⟨r, rfl, .start (.refl _)⟩, fun ys mc φ' D hJ hD => ?_⟩
  · obtain ⟨r', _, B⟩ := hJ
    exact ok_lst (B.le _ _ T.own)
  · obtain ⟨r', rfl, B⟩ := hJ
    have hx : x < 7 := range7.mp (mid_mem hS)
    have T' := T.le B.le
    walk_at "go"
    refine CallV_listSeq (by walk_at "lkp") fun a ha => ?_
    obtain ⟨B', e⟩ := B.step (P := fun φ i a => φ a = some (.lst (row (w i)))) (φ' := upd φ' a (.lst (row (w x)))) (fun _ _ _ _ l h => l _ _ h) (mid_not range7_nodup hS) (by walk_at "le") ha (upd_same ..) (upd_same ..)
    exact ⟨_, e.symm, B'⟩
  obtain ⟨r', rfl, B⟩ := hJ
  have T0 := B.tab hD
  have hnew : ∀ i, i < 7 → φ (r' i) = none := fun i hi => B.new i (range7.mpr hi)
  have inj : ∀ i j, i < 7 → j < 7 → r' i = r' j → i = j := fun i j hi hj => B.inj i (range7.mpr hi) j (range7.mpr hj)
  have hDn : φ D = none := B.le.none hD
  have hle0 : Le φ (upd φ' D (.lst (refs r'))) := B.le.alloc hD
  clear hfr B hD
  change seqK _ _ _ _ _ _ _ (upd φ' D (.lst (refs r')))
  generalize upd φ' D (.lst (refs r')) = φ1 at T0 hle0 ⊢
  walk_at "go"
  -- the places at no way from themselves
  refine S_ForG (α := Nat) ?_ (by intro _; with_unfolding_all rfl)
  walk_at "go"
  have hp1 : φ1 pa = some (.lst (nats S)) := hle0 _ _ hp
  refine ⟨.list pa, S, fun (x : Nat) => .int (x : Int) 0, fun done m φ' => m "table" = some (.ref D) ∧ m "places" = some (.ref pa) ∧ Le φ φ' ∧ Tab φ' D r' (zdiag w done), from_nats hp1, .inl (by intro _ _; with_unfolding_all rfl), fun done m φ' hI => ok_nats (hI.2.2.1 _ _ hp), ⟨by walk_at "lkm", by walk_at "lkm", hle0, by rw [zdiag_nil]; exact T0⟩, fun done x rest m φ' hS hI => ?_, fun m φ' hI => ?_⟩
  · obtain ⟨m1, m2, le1, T1⟩ := hI
    have hx : x < 7 := h7 x (mid_mem hS)
    have hn := hnew x hx
    walk_at "go"
    exact ⟨by walk_at "lkm", by walk_at "lkm", by walk_at "le", by rw [← zdiag_step]; exact T1.set inj hx x _⟩
  clear T0 hle0 hp1
  obtain ⟨m1, m2, le1, T1⟩ := hI
  have pos : PosE (EdW w S) := gw.posE S
  walk_at "go"
  refine S_ForG (α := Nat) ?_ (by intro _; with_unfolding_all rfl)
  walk_at "go"
  refine ⟨.list pa, S, fun (x : Nat) => .int (x : Int) 0, fun done m φ' => m "table" = some (.ref D) ∧ m "places" = some (.ref pa) ∧ Le φ φ' ∧ ∃ t, Tab φ' D r' t ∧ FInv (EdW w S) S (fun x => x ∈ done) t, from_nats (le1 _ _ hp), .inl (by intro _ _; with_unfolding_all rfl), fun done m φ' hI => ok_nats (hI.2.2.1 _ _ hp), ⟨m1, m2, le1, _, T1, ?_⟩, fun done mid rest m φ' hS hI => ?_, fun m φ' hI => ?_⟩
  · have := FInv.of_zdiag (S := S) gw
    exact ⟨this.sound, fun a b k ha hb p => this.full a b k ha hb (walk_none p)⟩
  · obtain ⟨m1, m2, le1, t0, T1, F⟩ := hI
    have hmid : mid < 7 := h7 mid (mid_mem hS)
    walk_at "go"
    refine S_ForG (α := Nat) ?_ (by intro _; with_unfolding_all rfl)
    walk_at "go"
    refine ⟨.list pa, S, fun (x : Nat) => .int (x : Int) 0, fun doneA m φ' => m "table" = some (.ref D) ∧ m "places" = some (.ref pa) ∧ m "middle" = some (.int (mid : Int) 0) ∧ Le φ φ' ∧ ∃ t, Tab φ' D r' t ∧ FMid (EdW w S) S (fun x => x ∈ done) mid t0 t (fun i j => i ∈ doneA ∧ j ∈ S), from_nats (le1 _ _ hp), .inl (by intro _ _; with_unfolding_all rfl), fun done m φ' hI => ok_nats (hI.2.2.2.1 _ _ hp), ⟨by walk_at "lkm", by walk_at "lkm", by walk_at "lkm", le1, _, T1, ?_⟩, fun doneA a restA m φ' hSA hI => ?_, fun m φ' hI => ?_⟩
    · have := FMid.start (m := mid) F
      exact ⟨this.sound, this.low, fun a b k1 k2 h => by cases h.1⟩
    · obtain ⟨m1, m2, m3, le2, t, T2, FM⟩ := hI
      have ha : a < 7 := h7 a (mid_mem hSA)
      walk_at "go"
      refine if_some (fun x hx => ?_) (fun hn => ?_)
      · walk_at "go"
        refine S_ForG (α := Nat) ?_ (by intro _; with_unfolding_all rfl)
        walk_at "go"
        refine ⟨.list pa, S, fun (x : Nat) => .int (x : Int) 0, fun doneB m φ' => m "table" = some (.ref D) ∧ m "places" = some (.ref pa) ∧ m "middle" = some (.int (mid : Int) 0) ∧ m "a" = some (.int (a : Int) 0) ∧ Le φ φ' ∧ ∃ t, Tab φ' D r' t ∧ (∃ x, t a mid = some x) ∧
          FMid (EdW w S) S (fun x => x ∈ done) mid t0 t (fun i j => (i ∈ doneA ∧ j ∈ S) ∨ (i = a ∧ j ∈ doneB)), from_nats (le2 _ _ hp), .inl (by intro _ _; with_unfolding_all rfl), fun done m φ' hI => ok_nats (hI.2.2.2.2.1 _ _ hp), ⟨by walk_at "lkm", by walk_at "lkm", by walk_at "lkm", by walk_at "lkm", le2, _, T2, ⟨x, hx⟩, ?_⟩, fun doneB b restB m φ' hSB hI => ?_, fun m φ' hI => ?_⟩
        · exact ⟨FM.sound, FM.low, fun i j k1 k2 h => FM.told i j k1 k2 (h.elim id fun q => by cases q.2)⟩
        · obtain ⟨m1, m2, m3, m4, le3, t, T3, ⟨x, hx⟩, FM⟩ := hI
          have hb : b < 7 := h7 b (mid_mem hSB)
          have hD : ∀ i j, ((i ∈ doneA ∧ j ∈ S) ∨ (i = a ∧ j ∈ doneB ++ [b])) → ((i ∈ doneA ∧ j ∈ S) ∨ (i = a ∧ j ∈ doneB)) ∨ (i = a ∧ j = b) := fun i j h => by
            rcases h with h | ⟨h1, h2⟩
            · exact .inl (.inl h)
            · rcases List.mem_append.mp h2 with h2 | h2
              · exact .inl (.inr ⟨h1, h2⟩)
              · exact .inr ⟨h1, List.mem_singleton.mp h2⟩
          walk_at "go"
          refine if_some (fun y hy => ?_) (fun hn => ?_)
          · walk_at "go"
            have put : ∀ m : Frm, (t a b = none ∨ ∃ z, t a b = some z ∧ x + y < z) → m "table" = some (.ref D) → m "places" = some (.ref pa) → m "middle" = some (.int (mid : Int) 0) → m "a" = some (.int (a : Int) 0) →
                (m "table" = some (.ref D) ∧ m "places" = some (.ref pa) ∧ m "middle" = some (.int (mid : Int) 0) ∧ m "a" = some (.int (a : Int) 0) ∧ Le φ (upd φ' (r' a) (.lst (row (bset (t a) b (some (x + y)))))) ∧
                ∃ t', Tab (upd φ' (r' a) (.lst (row (bset (t a) b (some (x + y)))))) D r' t' ∧ (∃ x, t' a mid = some x) ∧ FMid (EdW w S) S (fun x => x ∈ done) mid t0 t' (fun i j => (i ∈ doneA ∧ j ∈ S) ∨ (i = a ∧ j ∈ doneB ++ [b]))) := fun m h3 m1 m2 m3 m4 => by
              have hna := hnew a ha
              refine ⟨m1, m2, m3, m4, by walk_at "le", _, T3.set inj ha b _, ?_, FM.put (mid_mem hSA) (mid_mem hSB) (mid_mem hS) hx hy h3 hD⟩
              unfold tset
              by_cases e : a = a ∧ mid = b
              · exact ⟨_, if_pos e⟩
              · exact ⟨x, by rw [if_neg e]; exact hx⟩
            refine if_nil (fun hn => ?_) (fun z hz => ?_)
            · walk_at "go"
              exact put _ (.inl hn) (by walk_at "lkm") (by walk_at "lkm") (by walk_at "lkm") (by walk_at "lkm")
            · walk_at "go"
              refine if_dec (fun hlt => ?_) (fun hge => ?_)
              · walk_at "go"
                exact put _ (.inr ⟨z, hz, hlt⟩) (by walk_at "lkm") (by walk_at "lkm") (by walk_at "lkm") (by walk_at "lkm")
              · walk_at "go"
                exact ⟨by walk_at "lkm", by walk_at "lkm", by walk_at "lkm", by walk_at "lkm", le3, _, T3, ⟨x, hx⟩, FM.keep hx hy hz hge hD⟩
          · walk_at "go"
            exact ⟨by walk_at "lkm", by walk_at "lkm", by walk_at "lkm", by walk_at "lkm", le3, _, T3, ⟨x, hx⟩, FM.none_right hn hD⟩
        · obtain ⟨m1, m2, m3, m4, le3, t, T3, _, FM⟩ := hI
          walk_at "go"
          exact ⟨by walk_at "lkm", by walk_at "lkm", by walk_at "lkm", le3, _, T3, ⟨FM.sound, FM.low, fun i j k1 k2 h h1 h2 => FM.told i j k1 k2 ((List.mem_append.mp h.1).imp (fun q => ⟨q, h.2⟩) fun q => ⟨List.mem_singleton.mp q, h.2⟩) h1 h2⟩⟩
      · walk_at "go"
        exact ⟨by walk_at "lkm", by walk_at "lkm", by walk_at "lkm", le2, _, T2, FM.none_left hn fun i j h => (List.mem_append.mp h.1).imp (fun q => ⟨q, h.2⟩) List.mem_singleton.mp⟩
    · obtain ⟨m1, m2, m3, le2, t, T2, FM⟩ := hI
      walk_at "go"
      exact ⟨m1, m2, le2, _, T2, FMid.done pos F FM (mid_mem hS) (fun x h => (List.mem_append.mp h).imp id List.mem_singleton.mp) fun a b ha hb => ⟨ha, hb⟩⟩
  · obtain ⟨m1, m2, le2, t, T2, F⟩ := hI
    walk_at "go"
    exact ⟨D, r', t, rfl, T2, hnew, inj, le2, fun a ha b hb => F.done (fun _ _ _ h => h.2.2) ha hb⟩
end

section
variable {C : Cx} {d : Nat} {φ : Phi} {f : Addr}
theorem leads_ok (G : Globs C) (H : FnOk C "_law_leads" f (fnP 12) (fnB 12) (fnS 12)) (hrange : Blt C "range" (.type "range"))
    {wa pa : Addr} {r : Nat → Addr} {w : Gr} {S : List Nat} (T : Tab φ wa r w) (hp : φ pa = some (.lst (nats S))) (h7 : ∀ x ∈ S, x < 7) (hn : S.length ≤ 7) :
    Ct C 1 f [.ref wa, .ref pa] (fun u φ' => ∃ a r', u = .ref a ∧ Adj φ' a r' (leadsOf w S) ∧ Le φ φ') φ := by
  refine Ct_def2 G H (n1 := "ways") (n2 := "places") (fun pm cd doc v1 v2 => by rfl) (hk := by rfl) (hco := by rfl) (hgen := by rfl) fun L cd hL env he => ?_
  have hsc : env.scope = fnS 12 := by rw [he]; rfl
  have hgl : env.globals = mainGlobals := by rw [he]; rfl
  have hbl : env.builtins = builtinsNs := by rw [he]; rfl
  have hce : env.cells = cellsFrom (L + 1) (fnS 12).names [] := by rw [he]; rfl
  have c1 : Cel env "ways" (L + 1) := cel_of hsc (by rw [hce]; rfl) (by decide +kernel)
  have c2 : Cel env "places" (L + 1 + 1) := cel_of hsc (by rw [hce]; rfl) (by decide +kernel)
  have g1 : Glb env "range" := by walk_at "glb"
  have hi : interactive env = false := by rw [he]; rfl
  have e1 := fr1 hL
  have e2 := fr2 hL
  have e3 : L + 1 ≠ L + 1 + 1 := fr12
  show Bind _ _ _ _ _ _ (upd (upd φ (L + 1) (.cell none)) (L + 1 + 1) (.cell none))
  refine Bind_cell c1 (by walk_at "lkp") (Bind_cell c2 (by walk_at "lkp") (Bind_nil ?_))
  show Ss _ _ _ (fnB 12) _ _ _
  rw [cells2 e3]
  clear he
  conv in (fnB 12) => whnf
  have le0 : Le φ (upd (upd φ (L + 1) (.cell (some (.ref wa)))) (L + 1 + 1) (.cell (some (.ref pa)))) := by walk_at "le"
  have hw0 : upd (upd φ (L + 1) (.cell (some (.ref wa)))) (L + 1 + 1) (.cell (some (.ref pa))) (L + 1) = some (.cell (some (.ref wa))) := by walk_at "lkp"
  have hp0 : upd (upd φ (L + 1) (.cell (some (.ref wa)))) (L + 1 + 1) (.cell (some (.ref pa))) (L + 1 + 1) = some (.cell (some (.ref pa))) := by walk_at "lkp"
  change Ss _ _ _ _ _ _ (upd (upd φ (L + 1) (.cell (some (.ref wa)))) (L + 1 + 1) (.cell (some (.ref pa))))
  generalize upd (upd φ (L + 1) (.cell (some (.ref wa)))) (L + 1 + 1) (.cell (some (.ref pa))) = φ1 at le0 hw0 hp0 ⊢
  walk_at "go"
  walk_at "lc"
  walk_at "go"
  refine V_range (n := 7) fun ra hra => ?_
  walk_at "go"
  refine ⟨.range 0 1, List.range 7, fun (i : Nat) => .int (i : Int) 0, from_range (upd_same ..) (by decide), by decide, fun Cl ce hfr K => ?_⟩
  have ks := K.s
  have kc := K.c
  have kg := K.g
  have kb := K.b
  have k1 : Cel ce "v" (Cl + 1) := cel_of ks (by rw [kc]; rfl) (by decide +kernel)
  have k2 : Cel ce "ways" (L + 1) := cel_of ks (by rw [kc]; rfl) (by decide +kernel)
  have k3 : Cel ce "places" (L + 1 + 1) := cel_of ks (by rw [kc]; rfl) (by decide +kernel)
  clear K
  have hv0 := fr1 hfr
  have le2 : Le φ (upd φ1 ra (.rng 0 ((7 : Nat) : Int) 1)) := by walk_at "le"
  have hw2 := upd_old (x := .rng 0 ((7 : Nat) : Int) 1) hra hw0
  have hp2 := upd_old (x := .rng 0 ((7 : Nat) : Int) 1) hra hp0
  clear hfr
  generalize hc : Cl + 1 = c at k1 hv0 kc ⊢
  show ∃ J, CompG C 0 ce _ _ _ _ _ _ J ∧ J [] [] (fun _ => none) (upd (upd φ1 ra (.rng 0 ((7 : Nat) : Int) 1)) c (.cell none)) ∧ _
  generalize upd φ1 ra (.rng 0 ((7 : Nat) : Int) 1) = φ2 at le2 hw2 hp2 hv0 ⊢
  have T2 := T.le le2
  have hpa := le2 _ _ hp
  refine ⟨fun done ys mc φ' => ∃ r' ψ v0, ys = done.map (fun i => .ref (r' i)) ∧ φ' = upd ψ c (.cell v0) ∧ ψ c = none ∧ Bld (fun φ u a => PL φ a (leadsOf w S u)) φ2 ψ done r', ⟨fun done ys mc φ' hJ => ok_range, fun done x rest ys mc φ' hS hJ => ?_⟩, ⟨r, φ2, none, rfl, rfl, hv0, .start (.refl _)⟩, fun ys mc φ' D hJ hD => ?_⟩
  · obtain ⟨r', ψ, v0, rfl, rfl, hψ, B⟩ := hJ
    have hx : x < 7 := range7.mp (mid_mem hS)
    refine G_cell k1 (upd_same ..) ?_
    rw [upd_upd]
    have le3 : Le φ2 (upd ψ c (.cell (some (.int (x : Int) 0)))) := B.le.alloc hψ
    have leψ : Le ψ (upd ψ c (.cell (some (.int (x : Int) 0)))) := (Le.refl ψ).alloc hψ
    have hv3 : upd ψ c (.cell (some (.int (x : Int) 0))) c = some (.cell (some (.int (x : Int) 0))) := upd_same ..
    generalize hφ3 : upd ψ c (.cell (some (.int (x : Int) 0))) = φ3 at le3 hv3 leψ ⊢
    have hw3 := le3 _ _ hw2
    have hp3 := le3 _ _ hp2
    have T3 := T2.le le3
    have hpa3 := le3 _ _ hpa
    walk_at "go"
    walk_at "lc"
    walk_at "go"
    refine ⟨.list pa, S, fun (x : Nat) => .int (x : Int) 0, from_nats hpa3, by omega, fun Cl2 ce2 hfr2 K2 => ?_⟩
    have k21 : Loc ce2 "w" := loc_of K2.s (by decide +kernel)
    have k22 : Cel ce2 "ways" (L + 1) := cel_of K2.s (by rw [K2.c]; rfl) (by decide +kernel)
    have k23 : Cel ce2 "v" c := cel_of K2.s (by rw [K2.c]; rfl) (by decide +kernel)
    clear K2
    refine ⟨fun done ys mc φ' => ∃ SS : List (Addr × Nat × Int), ys = SS.map (fun q => Value.ref q.1) ∧ SS.map (fun q => q.2) = leadsOf w done x ∧ (∀ q ∈ SS, φ' q.1 = some (.tup [.int (q.2.1 : Int) 0, .int q.2.2 0])) ∧ Le φ3 φ', ⟨fun done ys mc φ' hJ => ?_, fun done2 z rest2 ys mc φ' hS2 hJ => ?_⟩, ⟨[], rfl, rfl, fun _ h => (by cases h), .refl _⟩, fun ys mc φ' D hJ hD => ?_⟩
    · obtain ⟨SS, _, _, _, le4⟩ := hJ
      exact ok_nats (le4 _ _ hpa3)
    · obtain ⟨SS, rfl, hs, hq, le4⟩ := hJ
      have hz : z < 7 := h7 z (mid_mem hS2)
      have hw4 := le4 _ _ hw3
      have hv4 := le4 _ _ hv3
      have T4 := T3.le le4
      walk_at "go"
      refine if_some (fun y hy => ?_) (fun hn => ?_)
      · walk_at "go"
        refine ⟨by simp, fun a ha => ?_⟩
        obtain ⟨e1, e2, e3⟩ := pairs_step hs hq ((Le.refl φ').alloc ha) (upd_same φ' a (.tup [.int (z : Int) 0, .int y 0]))
        exact ⟨_, e1.symm, by rw [e2, leads_take hy], e3, le4.alloc ha⟩
      · walk_at "go"
        exact ⟨SS, rfl, by rw [hs, leads_skip hn], hq, le4⟩
    · obtain ⟨SS, rfl, hs, hq, le4⟩ := hJ
      have hv4 : upd φ' D (.lst (SS.map fun q => Value.ref q.1)) c = some (.cell (some (.int (x : Int) 0))) := upd_old hD (le4 _ _ hv3)
      have le5 : Le φ3 (upd φ' D (.lst (SS.map fun q => Value.ref q.1))) := le4.alloc hD
      have hPL : PL (upd φ' D (.lst (SS.map fun q => Value.ref q.1))) D (leadsOf w S x) := ⟨SS, upd_same .., hs, fun q hq' => upd_old hD (hq q hq')⟩
      have hDc : D ≠ c := fun e => by rw [e, le4 _ _ hv3] at hD; cases hD
      obtain ⟨B', e⟩ := B.step (fun _ _ _ _ l h => h.le l) (mid_not range7_nodup hS) (del_upd_le hψ (hφ3 ▸ le5)) ((leψ.trans le4).none hD) (hPL.del hv4) (del_ne (upd_same ..) hDc)
      exact ⟨_, _, _, e.symm, (del_upd hv4).symm, del_same .., B'⟩
  · obtain ⟨r', ψ, v0, rfl, rfl, hψ, B⟩ := hJ
    walk_at "go"
    have lea : Le ψ (upd (upd ψ c (.cell v0)) D (.lst ((List.range 7).map fun i => .ref (r' i)))) := ((Le.refl ψ).alloc hψ).alloc hD
    exact ⟨D, r', rfl, ⟨upd_same .., fun i hi => (B.has i (range7.mpr hi)).le lea⟩, le2.trans (B.le.trans lea)⟩
end

section
variable {C : Cx} {d : Nat} {φ : Phi} {f : Addr}
structure SInv (φ : Phi) (la ba ha : Addr) (e : Edg) (start : Nat) (v : Nat) (pend : Nat → Int → Prop) (best : Nat → Option Int) (hs : List Value) (key : Key) (φ' : Phi) : Prop where
  le : Le φ φ'
  own : φ' ba = some (.lst (row best))
  heap : φ' ha = some (.lst hs)
  keys : ∀ v ∈ hs, IsP φ' v (key v)
  ord : HeapFrom key 0 hs
  inv : DInv e start best (hs.map key) v pend
theorem search_ok (HF : HeapFns C) (H : FnOk C "_law_search" f (fnP 11) (fnB 11) (fnS 11)) (hmin : Blt C "min" (.builtin "min"))
    {la : Addr} {r : Nat → Addr} {adj : Nat → List (Nat × Int)} {start : Nat} (T : Adj φ la r adj) (hst : start < 7) (hlen : ∀ u, u < 7 → (adj u).length ≤ 7) (hadj : ∀ u, u < 7 → ∀ x l, (x, l) ∈ adj u → x < 7 ∧ 0 < l) :
    Ct C 4 f [.ref la, .int (start : Int) 0] (fun u φ' => ∃ ba best, u = .ref ba ∧ φ ba = none ∧ φ' ba = some (.lst (row best)) ∧ Le φ φ' ∧ ∀ x, IsDist (AdjE adj) start x (best x)) φ := by
  have G := HF.g
  have H1 := HF.push
  have H2 := HF.pop
  refine Ct_def2 G H (n1 := "leads") (n2 := "start") (fun pm cd doc v1 v2 => by rfl) (hk := by rfl) (hco := by rfl) (hgen := by rfl) fun L cd hL env he => ?_
  have hsc : env.scope = fnS 11 := by rw [he]; rfl
  have hgl : env.globals = mainGlobals := by rw [he]; rfl
  have hbl : env.builtins = builtinsNs := by rw [he]; rfl
  have n1 : Loc env "leads" := by walk_at "loc"
  have n2 : Loc env "start" := by walk_at "loc"
  have n3 : Loc env "best" := by walk_at "loc"
  have n4 : Loc env "heap" := by walk_at "loc"
  have n5 : Loc env "due" := by walk_at "loc"
  have n6 : Loc env "w" := by walk_at "loc"
  have n7 : Loc env "length" := by walk_at "loc"
  have g1 : Glb env "min" := by walk_at "glb"
  have g2 : Glb env "heappop" := by walk_at "glb"
  have g3 : Glb env "heappush" := by walk_at "glb"
  have hi : interactive env = false := by rw [he]; rfl
  show Bind _ _ _ _ _ _ φ
  refine Bind_local n1 (Bind_local n2 (Bind_nil ?_))
  show Ss _ _ _ (fnB 11) _ _ _
  clear he
  conv in (fnB 11) => whnf
  have pos : PosE (AdjE adj) := fun a b l h => (hadj a h.1 b l h.2).2
  walk_at "go"
  refine ⟨by simp, fun a1 h1 => ?_⟩
  walk_at "go"
  refine Op_none7 (by walk_at "lkp") fun ba hba => ?_
  walk_at "go"
  refine ⟨by simp, fun ta hta => ?_⟩
  walk_at "go"
  refine ⟨by simp, fun ha hha => ?_⟩
  walk_at "go"
  have hna : φ ha = none := (by walk_at "le" : Le φ _).none hha
  have hnb : φ ba = none := (by walk_at "le" : Le φ _).none hba
  have hla := T.own
  refine S_While (fun n m φ' => ∃ best hs key, m "leads" = some (.ref la) ∧ m "best" = some (.ref ba) ∧ m "heap" = some (.ref ha) ∧ SInv φ la ba ha (AdjE adj) start 0 (fun _ _ => False) best hs key φ' ∧ n = hs.length + 8 * unset best ∧ n ≤ 57) 57
    ⟨fun _ => none, [.ref ta], fun _ => (0, (start : Int)), by walk_at "lkm", by walk_at "lkm", by walk_at "lkm", ⟨by walk_at "le", by walk_at "lkp", by walk_at "lkp", fun v hv => ?_, fun c h0 hc _ => ?_, DInv.start hst⟩, by rw [unset_start]; rfl, Nat.le_refl _⟩ fun n m φ' hI => ?_
  · rw [List.mem_singleton.mp hv]
    exact ⟨ta, rfl, by show _ = some (AO.tup [.int 0 0, .int (start : Int) 0]); walk_at "lkp"⟩
  · simp at hc; omega
  obtain ⟨best, hs, key, m1, m2, m3, I, hn, hn57⟩ := hI
  have hbh : ba ≠ ha := fun e => by
    have h1 := I.own
    rw [e, I.heap] at h1
    have h2 : hs = row best := AO.lst.inj (Option.some.inj h1)
    obtain ⟨a, h3, _⟩ := I.keys (at_ (row best) 0) (by rw [h2]; exact at_mem (by rw [row_len]; decide))
    rw [at_row (by decide)] at h3
    cases hb : best 0 <;> rw [hb] at h3 <;> cases h3
  have o1 := I.own
  have o2 := I.heap
  walk_at "go"
  refine ⟨by simp, fun tb htb => ?_⟩
  refine Op_ne_nil (by walk_at "lkp") (by walk_at "lkp") ?_
  walk_at "go"
  refine if_b (fun hne => ?_) fun hem => ?_
  · have hne : hs ≠ [] := fun e => by rw [e] at hne; cases hne
    have h0 : 0 < hs.length := List.length_pos_iff.mpr hne
    walk_at "go"
    have le1 : Le φ' (upd φ' tb (.lst [])) := (Le.refl _).alloc htb
    refine CallV_min (key := key) (by walk_at "lkp") hne (fun v hv => (I.keys v hv).le le1) fun due hdue hmn => ?_
    walk_at "go"
    refine V_fn (heappop_ok HF (φ := upd φ' tb (.lst [])) (key := key) (by walk_at "lkp") (fun v hv => (I.keys v hv).le le1) I.ord hne) (by omega) fun v φ2 hv => ?_
    obtain ⟨rfl, ys, hperm, hord, rfl⟩ := hv
    have htop : at_ hs 0 ∈ hs := at_mem h0
    have hk2 : ∀ v ∈ hs, IsP (upd (upd φ' tb (.lst [])) ha (.lst ys)) v (key v) := fun v hv => ((I.keys v hv).le le1).updL (upd_old htb o2)
    have hdk := hk2 due hdue
    have htk := hk2 _ htop
    walk_at "go"
    have heq : key (at_ hs 0) = key due := ple_antisymm (I.ord.first_mem hdue) (hmn _ htop)
    rw [show (key (at_ hs 0) != key due) = false by rw [heq]; exact bne_self_eq_false ..]
    walk_at "go"
    obtain ⟨u, hu, hu2, _⟩ := I.inv.entries (key due) (List.mem_map_of_mem hdue)
    obtain ⟨k, hk⟩ : ∃ k, key due = (k, (u : Int)) := ⟨(key due).1, Prod.ext rfl hu2⟩
    obtain ⟨da, rfl, hda⟩ := hdk
    rw [hk] at hda heq hmn
    have hda : upd (upd φ' tb (.lst [])) ha (.lst ys) da = some (.tup [.int k 0, .int (u : Int) 0]) := hda
    have hperm' : ((k, (u : Int)) :: ys.map key).Perm (hs.map key) := by rw [← heq]; exact hperm.map key
    have hmin' : ∀ q ∈ hs.map key, k ≤ q.1 := fun q hq => by
      obtain ⟨v, hv, rfl⟩ := List.mem_map.mp hq
      have := hmn v hv
      unfold plt at this
      omega
    have le2 : Le φ (upd (upd φ' tb (.lst [])) ha (.lst ys)) := by
      have := I.le
      walk_at "le"
    have ob2 : upd (upd φ' tb (.lst [])) ha (.lst ys) ba = some (.lst (row best)) := by walk_at "lkp"
    have oh2 : upd (upd φ' tb (.lst [])) ha (.lst ys) ha = some (.lst ys) := upd_same ..
    have hdb : da ≠ ba := ne_tl hda ob2
    have hdh : da ≠ ha := ne_tl hda oh2
    have hys : ∀ v ∈ ys, v ∈ hs := fun v hv => hperm.mem_iff.mp (.tail _ hv)
    have hlen2 : ys.length + 1 = hs.length := hperm.length_eq
    clear hdue htk
    generalize upd (upd φ' tb (.lst [])) ha (.lst ys) = φ2 at hda le2 ob2 oh2 hk2 ⊢
    walk_at "go"
    refine if_nil (fun hb => ?_) fun x hx => ?_
    · walk_at "go"
      refine S_ForG (α := Addr × Nat × Int) ?_ (by intro _; with_unfolding_all rfl)
      walk_at "go"
      obtain ⟨S, hS1, hS2, hS3⟩ := T.row u hu
      have le3 : Le φ (upd φ2 ba (.lst (row (bset best u (some k))))) := by walk_at "le"
      refine ⟨.list (r u), S, fun q => .ref q.1, fun done m φ'' => ∃ hs2 key2, m "leads" = some (.ref la) ∧ m "best" = some (.ref ba) ∧ m "heap" = some (.ref ha) ∧ m "due" = some (.ref da) ∧ φ'' da = some (.tup [.int k 0, .int (u : Int) 0]) ∧
        SInv φ la ba ha (AdjE adj) start u (fun w l => ∃ rest, S = done ++ rest ∧ (w, l) ∈ rest.map (fun q => q.2)) (bset best u (some k)) hs2 key2 φ'' ∧ hs2.length ≤ ys.length + done.length,
        from_lst (le3 _ _ hS1), .inr ⟨⟨_, _, _, rfl⟩, ⟨_, rfl⟩, fun v hv => ?_⟩, fun done m φ'' hI => ?_, ⟨ys, key, by walk_at "lkm", by walk_at "lkm", by walk_at "lkm", by walk_at "lkm", by walk_at "lkp", ⟨le3, upd_same .., by walk_at "lkp", fun v hv => (hk2 v (hys v hv)).updL ob2, hord, ?_⟩, by simp⟩, fun done q rest m φ'' hSq hI => ?_, fun m φ'' hI => ?_⟩
      · obtain ⟨q, _, rfl⟩ := List.mem_map.mp hv
        exact ⟨_, rfl⟩
      · obtain ⟨_, _, _, _, _, _, _, I2, _⟩ := hI
        exact ok_lst (I2.le _ _ hS1)
      · exact (DInv.settle pos I.inv hperm' rfl hb hmin').pend fun w l h => ⟨S, rfl, hS2 ▸ h.2⟩
      · obtain ⟨hs2, key2, m1, m2, m3, m4, hda2, I2, hl2⟩ := hI
        obtain ⟨qa, w, l⟩ := q
        have hq : φ qa = some (.tup [.int (w : Int) 0, .int l 0]) := hS3 (qa, w, l) (mid_mem hSq)
        have hwl : (w, l) ∈ adj u := by
          rw [← hS2]
          exact List.mem_map.mpr ⟨(qa, w, l), mid_mem hSq, rfl⟩
        obtain ⟨hw7, hl0⟩ := hadj u hu w l hwl
        have o1 := I2.own
        have o2 := I2.heap
        have hpend : ∀ w' l', (∃ rest, S = done ++ rest ∧ (w', l') ∈ rest.map (fun q => q.2)) → (w' = w ∧ l' = l) ∨ ∃ rest, S = (done ++ [(qa, w, l)]) ++ rest ∧ (w', l') ∈ rest.map (fun q => q.2) := fun w' l' ⟨rest', e, h⟩ => by
          have : rest' = (qa, w, l) :: rest := List.append_cancel_left (e.symm.trans hSq)
          subst this
          rcases List.mem_cons.mp h with h | h
          · cases h; exact .inl ⟨rfl, rfl⟩
          · exact .inr ⟨rest, by rw [List.append_assoc]; exact hSq, h⟩
        refine T_pairs (I2.le _ _ hq) ?_ (by with_unfolding_all rfl)
        walk_at "go"
        refine if_nil (fun hbw => ?_) fun x hx => ?_
        · walk_at "go"
          refine ⟨by simp, fun tn htn => ?_⟩
          walk_at "go"
          obtain ⟨key3, hk3, hk4⟩ := key_new (k + l, (w : Int)) htn I2.keys
          have le4 : Le φ'' (upd φ'' tn (.tup [.int (k + l) 0, .int (w : Int) 0])) := (Le.refl _).alloc htn
          have hkn : IsP (upd φ'' tn (.tup [.int (k + l) 0, .int (w : Int) 0])) (.ref tn) (key3 (.ref tn)) := by
            rw [hk3]; exact ⟨tn, rfl, upd_same ..⟩
          have hko : ∀ v ∈ hs2, IsP (upd φ'' tn (.tup [.int (k + l) 0, .int (w : Int) 0])) v (key3 v) := fun v hv => by
            rw [hk4 v hv]; exact (I2.keys v hv).le le4
          have hda4 := le4 _ _ hda2
          have ob4 := le4 _ _ o1
          have oh4 := le4 _ _ o2
          have hh2 : hs2.length ≤ 10000 := by
            have h1 := hS2 ▸ List.length_map (as := S) (fun q => q.2)
            have h2 : S.length = done.length + (rest.length + 1) := by rw [hSq, List.length_append]; rfl
            have h3 := hlen u hu
            omega
          have leφ : Le φ (upd φ'' tn (.tup [.int (k + l) 0, .int (w : Int) 0])) := I2.le.trans le4
          generalize upd φ'' tn (.tup [.int (k + l) 0, .int (w : Int) 0]) = φ4 at hkn hko hda4 ob4 oh4 leφ ⊢
          refine V_fn (heappush_ok HF (key := key3) oh4 hko hkn (I2.ord.congr hk4) hh2) (by omega) fun v φ5 hv => ?_
          obtain ⟨rfl, zs, hz, hzo, rfl⟩ := hv
          walk_at "go"
          refine ⟨zs, key3, by walk_at "lkm", by walk_at "lkm", by walk_at "lkm", by walk_at "lkm", by walk_at "lkp", ⟨by walk_at "le", by walk_at "lkp", upd_same .., fun v hv => ?_, hzo, ?_⟩, ?_⟩
          · rcases List.mem_append.mp (hz.mem_iff.mp hv) with h | h
            · exact (hko v h).updL oh4
            · rw [List.mem_singleton.mp h]; exact hkn.updL oh4
          · refine DInv.push I2.inv hpend (d := k) (by unfold bset; rw [if_pos rfl]) ⟨hu, hwl⟩ hw7 ?_
            have h1 := hz.map key3
            rw [List.map_append, List.map_singleton, hk3, List.map_congr_left hk4] at h1
            exact h1.trans (List.perm_append_singleton _ _)
          · have := hz.length_eq
            rw [List.length_append, List.length_singleton] at this
            rw [List.length_append, List.length_singleton]
            omega
        · walk_at "go"
          refine ⟨hs2, key2, by walk_at "lkm", by walk_at "lkm", by walk_at "lkm", by walk_at "lkm", hda2, ⟨I2.le, I2.own, I2.heap, I2.keys, I2.ord, I2.inv.drop hpend (by rw [hx]; simp)⟩, ?_⟩
          rw [List.length_append, List.length_singleton]
          omega
      · obtain ⟨hs2, key2, m1, m2, m3, m4, hda2, I2, hl2⟩ := hI
        walk_at "go"
        have h1 := unset_set (k := k) hu hb
        have h2 : S.length ≤ 7 := by
          have := hlen u hu
          rw [← hS2, List.length_map] at this
          exact this
        refine ⟨hs2.length + 8 * unset (bset best u (some k)), by omega, bset best u (some k), hs2, key2, by walk_at "lkm", by walk_at "lkm", by walk_at "lkm", ⟨I2.le, I2.own, I2.heap, I2.keys, I2.ord, I2.inv.turn fun w l ⟨rest, e, h⟩ => ?_⟩, rfl, by omega⟩
        have : rest = [] := List.append_cancel_left (as := S) (by rw [← e, List.append_nil])
        subst this
        cases h
    · walk_at "go"
      refine ⟨ys.length + 8 * unset best, by omega, best, ys, key, by walk_at "lkm", by walk_at "lkm", by walk_at "lkm", ⟨le2, ob2, oh2, fun v hv => hk2 v (hys v hv), hord, I.inv.skip hperm' rfl (by rw [hx]; simp)⟩, rfl, by omega⟩
  · have hem : hs = [] := by cases hs with
      | nil => rfl
      | cons _ _ => cases hem
    subst hem
    walk_at "go"
    exact ⟨ba, best, rfl, hnb, by walk_at "lkp", I.le.trans ((Le.refl _).alloc htb), fun x => DInv.done pos I.inv x⟩
end

section
variable {C : Cx} {d : Nat} {φ : Phi} {f f11 f12 : Addr}
theorem go_ok (HF : HeapFns C) (H : FnOk C "_law_go" f (fnP 13) (fnB 13) (fnS 13)) (H11 : FnOk C "_law_search" f11 (fnP 11) (fnB 11) (fnS 11)) (H12 : FnOk C "_law_leads" f12 (fnP 12) (fnB 12) (fnS 12)) (hmin : Blt C "min" (.builtin "min"))
    {wa la fa : Addr} {r rf : Nat → Addr} {w fi : Gr} {left : List Nat} {v : Nat} (T : Tab φ wa r w) (inj : ∀ i j, i < 7 → j < 7 → r i = r j → i = j) (Tf : Tab φ fa rf fi) (hl : φ la = some (.lst (nats left))) (h7 : ∀ x ∈ left, x < 7) (hn : left.length ≤ 7) (hv : v ∈ left) (gw : Good w)
    (hf : ∀ a ∈ left, ∀ b ∈ left, ∀ k, Pth (EdW w left) a b k → ∃ d, fi a b = some d ∧ d ≤ k) :
    Ct C 5 f [.ref wa, .ref la, .int (v : Int) 0, .ref fa] (fun u φ' => ∃ a adj w', u = .ref a ∧ φ a = none ∧ PL φ' a adj ∧ adj.length ≤ 7 ∧ Tab φ' wa r w' ∧ LeB r φ φ' ∧ Contr w left v (left.filter (· != v)) w' ∧
      ∀ z l, (z, l) ∈ adj ↔ z ∈ left.filter (· != v) ∧ w v z = some l) φ := by
  have G := HF.g
  refine Ct_def4 G H (n1 := "ways") (n2 := "left") (n3 := "v") (n4 := "first") (fun pm cd doc v1 v2 v3 v4 => by rfl) (hk := by rfl) (hco := by rfl) (hgen := by rfl) fun L cd hL env he => ?_
  have hsc : env.scope = fnS 13 := by rw [he]; rfl
  have hgl : env.globals = mainGlobals := by rw [he]; rfl
  have hbl : env.builtins = builtinsNs := by rw [he]; rfl
  have hce : env.cells = cellsFrom (L + 1) (fnS 13).names [] := by rw [he]; rfl
  have hbk : env.blockKind = .function := by rw [he]; rfl
  have c1 : Cel env "ways" (L + 1) := cel_of hsc (by rw [hce]; rfl) (by decide +kernel)
  have c2 : Cel env "v" (L + 1 + 1) := cel_of hsc (by rw [hce]; rfl) (by decide +kernel)
  have n1 : Loc env "left" := by walk_at "loc"
  have n2 : Loc env "first" := by walk_at "loc"
  have n3 : Loc env "near" := by walk_at "loc"
  have n4 : Loc env "others" := by walk_at "loc"
  have n5 : Loc env "leads" := by walk_at "loc"
  have n6 : Loc env "fresh" := by walk_at "loc"
  have n7 : Loc env "a" := by walk_at "loc"
  have n8 : Loc env "best" := by walk_at "loc"
  have n9 : Loc env "b" := by walk_at "loc"
  have n10 : Loc env "length" := by walk_at "loc"
  have g1 : Glb env "_law_leads" := by walk_at "glb"
  have g2 : Glb env "_law_search" := by walk_at "glb"
  have hi : interactive env = false := by rw [he]; rfl
  have e1 := fr1 hL
  have e2 := fr2 hL
  have e3 : L + 1 ≠ L + 1 + 1 := fr12
  have hv7 := h7 v hv
  show Bind _ _ _ _ _ _ (upd (upd φ (L + 1) (.cell none)) (L + 1 + 1) (.cell none))
  refine Bind_cell c1 (by walk_at "lkp") (Bind_local n1 (Bind_cell c2 (by walk_at "lkp") (Bind_local n2 (Bind_nil ?_))))
  show Ss _ _ _ (fnB 13) _ _ _
  rw [cells2 e3]
  clear he
  conv in (fnB 13) => whnf
  have le0 : Le φ (upd (upd φ (L + 1) (.cell (some (.ref wa)))) (L + 1 + 1) (.cell (some (.int (v : Int) 0)))) := by walk_at "le"
  have hw0 : upd (upd φ (L + 1) (.cell (some (.ref wa)))) (L + 1 + 1) (.cell (some (.int (v : Int) 0))) (L + 1) = some (.cell (some (.ref wa))) := by walk_at "lkp"
  have hp0 : upd (upd φ (L + 1) (.cell (some (.ref wa)))) (L + 1 + 1) (.cell (some (.int (v : Int) 0))) (L + 1 + 1) = some (.cell (some (.int (v : Int) 0))) := by walk_at "lkp"
  change Ss _ _ _ _ _ _ (upd (upd φ (L + 1) (.cell (some (.ref wa)))) (L + 1 + 1) (.cell (some (.int (v : Int) 0))))
  generalize upd (upd φ (L + 1) (.cell (some (.ref wa)))) (L + 1 + 1) (.cell (some (.int (v : Int) 0))) = φ0 at le0 hw0 hp0 ⊢
  have hl0 := le0 _ _ hl
  -- near
  generalize hN : (left.filter fun x => x != v && (w v x).isSome) = near
  walk_at "go"
  walk_at "lc"
  walk_at "go"
  refine ⟨.list la, left, fun (x : Nat) => .int (x : Int) 0, from_nats hl0, by omega, fun Cl ce hfr K => ?_⟩
  have k1 : Loc ce "w" := loc_of K.s (by decide +kernel)
  have k2 : Cel ce "ways" (L + 1) := cel_of K.s (by rw [K.c]; rfl) (by decide +kernel)
  have k3 : Cel ce "v" (L + 1 + 1) := cel_of K.s (by rw [K.c]; rfl) (by decide +kernel)
  clear K
  refine ⟨fun done ys mc φ' => ys = nats (done.filter fun x => x != v && (w v x).isSome) ∧ φ' = φ0, ⟨fun done ys mc φ' hJ => ?_, fun done x rest ys mc φ' hS hJ => ?_⟩, ⟨rfl, rfl⟩, fun ys mc φ' D1 hJ hD1 => ?_⟩
  · obtain ⟨_, rfl⟩ := hJ
    exact ok_nats hl0
  · obtain ⟨rfl, rfl⟩ := hJ
    have hx : x < 7 := h7 x (mid_mem hS)
    walk_at "go"
    refine if_b (fun hb => ?_) fun hb => ?_
    · walk_at "go"
      refine if_some (fun y hy => ?_) fun hn => ?_
      · walk_at "go"
        exact ⟨nats_take (by simp [hb, hy]), rfl⟩
      · walk_at "go"
        exact ⟨nats_skip (by simp [hn]), rfl⟩
    · walk_at "go"
      exact ⟨nats_skip (by simp [hb]), rfl⟩
  obtain ⟨rfl, rfl⟩ := hJ
  clear hfr k1 k2 k3
  rw [hN]
  have hnear1 : upd φ' D1 (.lst (nats near)) D1 = some (.lst (nats near)) := upd_same ..
  have le1 := le0.alloc (x := .lst (nats near)) hD1
  have hnD1 := le0.none hD1
  have hw1 := upd_old (x := .lst (nats near)) hD1 hw0
  have hp1 := upd_old (x := .lst (nats near)) hD1 hp0
  change seqK _ _ _ _ _ _ _ (upd φ' D1 (.lst (nats near)))
  generalize upd φ' D1 (.lst (nats near)) = φ1 at hnear1 le1 hw1 hp1 ⊢
  clear hl0 hw0 hp0 hD1 le0
  have hl1 := le1 _ _ hl
  -- others
  generalize hO : (left.filter fun x => x != v) = others
  walk_at "go"
  walk_at "lc"
  walk_at "go"
  refine ⟨.list la, left, fun (x : Nat) => .int (x : Int) 0, from_nats hl1, by omega, fun Cl ce hfr K => ?_⟩
  have k1 : Loc ce "w" := loc_of K.s (by decide +kernel)
  have k3 : Cel ce "v" (L + 1 + 1) := cel_of K.s (by rw [K.c]; rfl) (by decide +kernel)
  clear K
  refine ⟨fun done ys mc φ' => ys = nats (done.filter fun x => x != v) ∧ φ' = φ1, ⟨fun done ys mc φ' hJ => ?_, fun done x rest ys mc φ' hS hJ => ?_⟩, ⟨rfl, rfl⟩, fun ys mc φ' D2 hJ hD2 => ?_⟩
  · obtain ⟨_, rfl⟩ := hJ
    exact ok_nats hl1
  · obtain ⟨rfl, rfl⟩ := hJ
    walk_at "go"
    refine if_b (fun hb => ?_) fun hb => ?_
    · walk_at "go"
      exact ⟨nats_take hb, rfl⟩
    · walk_at "go"
      exact ⟨nats_skip hb, rfl⟩
  obtain ⟨rfl, rfl⟩ := hJ
  clear hfr k1 k3
  rw [hO]
  have hoth2 : upd φ' D2 (.lst (nats others)) D2 = some (.lst (nats others)) := upd_same ..
  have le2 := le1.alloc (x := .lst (nats others)) hD2
  have hw2 := upd_old (x := .lst (nats others)) hD2 hw1
  have hp2 := upd_old (x := .lst (nats others)) hD2 hp1
  have hnear2 := upd_old (x := .lst (nats others)) hD2 hnear1
  change seqK _ _ _ _ _ _ _ (upd φ' D2 (.lst (nats others)))
  generalize upd φ' D2 (.lst (nats others)) = φ2 at hoth2 hnear2 le2 hw2 hp2 ⊢
  clear hl1 hw1 hp1 hD2 le1 hnear1
  have ho7 : ∀ x ∈ others, x < 7 := fun x hx => h7 x (by rw [← hO] at hx; exact (List.mem_filter.mp hx).1)
  have hon : others.length ≤ 7 := by
    have : others.length ≤ left.length := by rw [← hO]; exact List.length_filter_le ..
    omega
  walk_at "go"
  refine V_fn (leads_ok G H12 HF.range (T.le le2) hoth2 ho7 hon) (by omega) fun u φ3 hu => ?_
  obtain ⟨lda, rl, rfl, hA, le23⟩ := hu
  walk_at "go"
  refine ⟨by simp, fun fra hfra => ?_⟩
  walk_at "go"
  have le3 := le2.trans le23
  have hw3 := le23 _ _ hw2
  have hp3 := le23 _ _ hp2
  have hnear3 := le23 _ _ hnear2
  clear hw2 hp2 hnear2 hoth2
  have T3 := T.le le3
  have Tf3 := Tf.le le3
  have hS : ∀ x, x ∈ others ↔ x ∈ left ∧ x ≠ v := fun x => by rw [← hO, List.mem_filter]; simp
  have hnm : ∀ x, x ∈ near ↔ x ∈ left ∧ x ≠ v ∧ ∃ y, w v x = some y := fun x => by
    rw [← hN, List.mem_filter]
    simp [Option.isSome_iff_exists]
  have hno : ∀ x ∈ near, x ∈ others := fun x hx => (hS x).mpr ⟨((hnm x).mp hx).1, ((hnm x).mp hx).2.1⟩
  have hn7 : ∀ x ∈ near, x < 7 := fun x hx => h7 x ((hnm x).mp hx).1
  have hnl : near.length ≤ 7 := by
    have : near.length ≤ left.length := by rw [← hN]; exact List.length_filter_le ..
    omega
  have hadj : ∀ u, u < 7 → ∀ x l, (x, l) ∈ leadsOf w others u → x < 7 ∧ 0 < l := fun u _ x l h => by
    obtain ⟨h1, h2⟩ := mem_leadsOf.mp h
    exact ⟨ho7 x h1, gw.pos _ _ _ h2⟩
  have hlen : ∀ u, u < 7 → (leadsOf w others u).length ≤ 7 := fun u _ => Nat.le_trans leads_len hon
  refine S_ForG (α := Nat) ?_ (by intro _; with_unfolding_all rfl)
  walk_at "go"
  refine ⟨.list D1, near, fun (x : Nat) => .int (x : Int) 0, fun doneA m φ' => m "near" = some (.ref D1) ∧ m "leads" = some (.ref lda) ∧ m "first" = some (.ref fa) ∧ m "fresh" = some (.ref fra) ∧ Le φ3 φ' ∧ ∃ FL : List Quad, φ' fra = some (.lst (FL.map fun q => Value.ref q.1)) ∧
    (∀ q ∈ FL, φ' q.1 = some (.tup [.int (q.2.1 : Int) 0, .int (q.2.2.1 : Int) 0, .int q.2.2.2 0])) ∧ Fresh w v near others FL (fun i j => i ∈ doneA ∧ j ∈ near) ∧ FL.length ≤ 7 * doneA.length, from_nats (upd_old hfra hnear3), .inl (by intro _ _; with_unfolding_all rfl), fun done m φ' hI => ok_nats (hI.2.2.2.2.1 _ _ hnear3),
    ⟨by walk_at "lkm", by walk_at "lkm", by walk_at "lkm", by walk_at "lkm", by walk_at "le", [], upd_same .., fun q hq => (by cases hq), ⟨fun q hq => (by cases hq), fun i j h => (by cases h.1)⟩, by simp⟩, fun doneA a restA m φ' hSA hI => ?_, fun m φ' hI => ?_⟩
  · obtain ⟨m1, m2, m3, m4, le4, FL, hfl, hft, hFr, hfn⟩ := hI
    have han := mid_mem hSA
    have ha7 := hn7 a han
    obtain ⟨hal, hav, xa, hxa⟩ := (hnm a).mp han
    have hxa' : w a v = some xa := by rw [gw.sym]; exact hxa
    have hdl : doneA.length + 1 ≤ 7 := by
      have h2 : near.length = doneA.length + (restA.length + 1) := by rw [hSA, List.length_append]; rfl
      omega
    walk_at "go"
    refine V_fn (search_ok HF H11 hmin (hA.le le4) ha7 hlen hadj) (by omega) fun u φ5 hu => ?_
    obtain ⟨ba, best, rfl, hbn0, hba, le45, hd⟩ := hu
    have hbf : ba ≠ fra := fun e => by rw [e, hfl] at hbn0; cases hbn0
    have hd2 : ∀ x, IsDist (EdW w others) a x (best x) := fun x => pth_leads ho7 (fun u _ z l => mem_leadsOf) (hno a han) (hd x)
    walk_at "go"
    have le5 := le4.trans le45
    have hfl5 := le45 _ _ hfl
    refine S_ForG (α := Nat) ?_ (by intro _; with_unfolding_all rfl)
    walk_at "go"
    refine ⟨.list D1, near, fun (x : Nat) => .int (x : Int) 0, fun doneB m φ' => m "near" = some (.ref D1) ∧ m "leads" = some (.ref lda) ∧ m "first" = some (.ref fa) ∧ m "fresh" = some (.ref fra) ∧ m "a" = some (.int (a : Int) 0) ∧ m "best" = some (.ref ba) ∧ Le φ3 φ' ∧ φ' ba = some (.lst (row best)) ∧ ∃ FL : List Quad, φ' fra = some (.lst (FL.map fun q => Value.ref q.1)) ∧
      (∀ q ∈ FL, φ' q.1 = some (.tup [.int (q.2.1 : Int) 0, .int (q.2.2.1 : Int) 0, .int q.2.2.2 0])) ∧ Fresh w v near others FL (fun i j => (i ∈ doneA ∧ j ∈ near) ∨ (i = a ∧ j ∈ doneB)) ∧ FL.length ≤ 7 * doneA.length + doneB.length, from_nats (le5 _ _ hnear3), .inl (by intro _ _; with_unfolding_all rfl), fun done m φ' hI => ok_nats (hI.2.2.2.2.2.2.1 _ _ hnear3),
      ⟨by walk_at "lkm", by walk_at "lkm", by walk_at "lkm", by walk_at "lkm", by walk_at "lkm", by walk_at "lkm", le5, hba, FL, hfl5, fun q hq => le45 _ _ (hft q hq), hFr.mono (fun i j h => h.elim id fun q => by cases q.2), by simp; exact hfn⟩, fun doneB b restB m φ' hSB hI => ?_, fun m φ' hI => ?_⟩
    · obtain ⟨m1, m2, m3, m4, m5, m6, le6, hba6, FL, hfl, hft, hFr, hfn⟩ := hI
      have hbn := mid_mem hSB
      have hb7 := hn7 b hbn
      obtain ⟨hbl, hbv, xb, hxb⟩ := (hnm b).mp hbn
      have hvia : via w v a b = xa + xb := by unfold via; rw [hxa', hxb]; rfl
      have hbl2 : doneB.length + 1 ≤ 7 := by
        have h2 : near.length = doneB.length + (restB.length + 1) := by rw [hSB, List.length_append]; rfl
        omega
      have hD : ∀ i j, ((i ∈ doneA ∧ j ∈ near) ∨ (i = a ∧ j ∈ doneB ++ [b])) → ((i ∈ doneA ∧ j ∈ near) ∨ (i = a ∧ j ∈ doneB)) ∨ (i = a ∧ j = b) := fun i j h => by
        rcases h with h | ⟨h1, h2⟩
        · exact .inl (.inl h)
        · rcases List.mem_append.mp h2 with h2 | h2
          · exact .inl (.inr ⟨h1, h2⟩)
          · exact .inr ⟨h1, List.mem_singleton.mp h2⟩
      have hpath : Pth (EdW w left) a b (xa + xb) := (Pth.one (e := EdW w left) ⟨hxa', hal, hv⟩).snoc ⟨hxb, hv, hbl⟩
      obtain ⟨df, hdf, hdle⟩ := hf a hal b hbl _ hpath
      have hw6 := le6 _ _ hw3
      have hp6 := le6 _ _ hp3
      have T6 := T3.le le6
      have Tf6 := Tf3.le le6
      walk_at "go"
      refine if_dec (fun hab => ?_) fun hab => ?_
      · refine Ts_And_cons ?_
        refine T_same (b := match best b with | none => true | some z => decide (xa + xb < z)) ?_ ?_
        · walk_at "go"
          refine if_nil (fun hn => ?_) fun z hz => ?_
          · walk_at "go"
            exact ⟨by rw [hn], rfl, rfl⟩
          · walk_at "go"
            refine if_dec (fun hlt => ?_) fun hlt => ?_
            · walk_at "go"
              exact ⟨by rw [hz]; exact (decide_eq_true hlt).symm, rfl, rfl⟩
            · walk_at "go"
              exact ⟨by rw [hz]; exact (decide_eq_false hlt).symm, rfl, rfl⟩
        · have hdb := hd2 b
          refine if_b (fun ht => ?_) fun ht => ?_
          · have hk : ∀ k, Pth (EdW w others) a b k → via w v a b < k := fun k p => by
              rw [hvia]
              cases hbb : best b with
              | none => rw [hbb] at hdb; exact absurd p (hdb k)
              | some z =>
                rw [hbb] at hdb ht
                have := hdb.2 k p
                have := of_decide_eq_true ht
                omega
            walk_at "go"
            refine if_dec (fun hlt => absurd hdle (by omega)) fun _ => ?_
            walk_at "go"
            refine E_append ?_ (by with_unfolding_all rfl) (by with_unfolding_all rfl) (by with_unfolding_all rfl)
            walk_at "go"
            refine ⟨fra, rfl, ⟨_, hfl⟩, ?_⟩
            walk_at "go"
            refine ⟨by simp, fun tn htn => ?_⟩
            refine ⟨_, upd_old htn hfl, by rw [List.length_map]; omega, ?_⟩
            walk_at "go"
            have hne : ∀ q ∈ FL, q.1 ≠ fra := fun q hq => ne_tl (hft q hq) hfl
            have htf : tn ≠ fra := fun e => by rw [e, hfl] at htn; cases htn
            refine ⟨by walk_at "lkm", by walk_at "lkm", by walk_at "lkm", by walk_at "lkm", by walk_at "lkm", by walk_at "lkm", by walk_at "le", ?_, FL ++ [(tn, a, b, via w v a b)], ?_, fun q hq => ?_, hFr.push han hbn hab hk hD, by rw [List.length_append, List.length_append, List.length_singleton, List.length_singleton]; omega⟩
            · exact upd_ne hbf (upd_old htn hba6)
            · rw [upd_same, List.map_append]; rfl
            · rcases List.mem_append.mp hq with h | h
              · exact upd_ne (hne q h) (upd_old htn (hft q h))
              · rw [List.mem_singleton.mp h, hvia]
                exact upd_ne htf (upd_same ..)
          · walk_at "go"
            refine ⟨by walk_at "lkm", by walk_at "lkm", by walk_at "lkm", by walk_at "lkm", by walk_at "lkm", by walk_at "lkm", le6, hba6, FL, hfl, hft, hFr.skip (.inr ?_) hD, by rw [List.length_append, List.length_singleton]; omega⟩
            rw [hvia]
            cases hbb : best b with
            | none => rw [hbb] at ht; cases ht
            | some z =>
              rw [hbb] at ht hdb
              have := of_decide_eq_false ht
              exact ⟨z, by omega, hdb.1⟩
      · walk_at "go"
        exact ⟨by walk_at "lkm", by walk_at "lkm", by walk_at "lkm", by walk_at "lkm", by walk_at "lkm", by walk_at "lkm", le6, hba6, FL, hfl, hft, hFr.skip (.inl hab) hD, by rw [List.length_append, List.length_singleton]; omega⟩
    · obtain ⟨m1, m2, m3, m4, m5, m6, le6, hba6, FL, hfl, hft, hFr, hfn⟩ := hI
      walk_at "go"
      refine ⟨m1, m2, m3, m4, le6, FL, hfl, hft, hFr.mono (fun i j h => ?_), ?_⟩
      · rcases List.mem_append.mp h.1 with h1 | h1
        · exact .inl ⟨h1, h.2⟩
        · exact .inr ⟨List.mem_singleton.mp h1, h.2⟩
      · rw [List.length_append, List.length_singleton]; omega
  obtain ⟨m1, m2, m3, m4, le4, FL, hfl, hft, hFr, hfn⟩ := hI
  walk_at "go"
  -- the ways are set
  have le04 := le3.trans le4
  have T4 := T3.le le4
  have hw4 := le4 _ _ hw3
  have hp4 := le4 _ _ hp3
  have hnear4 := le4 _ _ hnear3
  have nrow : ∀ x, φ x = none → ∀ i, i < 7 → x ≠ r i := fun x hx i hi e => by rw [e, T.row i hi] at hx; cases hx
  have nfra := nrow fra (le3.none hfra)
  have nD1 : ∀ i, i < 7 → D1 ≠ r i := nrow _ hnD1
  have nc1 : ∀ i, i < 7 → L + 1 ≠ r i := nrow _ e1
  have nc2 : ∀ i, i < 7 → L + 1 + 1 ≠ r i := nrow _ e2
  have hq7 : ∀ q ∈ FL, q.2.1 < 7 ∧ q.2.2.1 < 7 := fun q hq => ⟨hn7 _ (hFr.hF q hq).1, hn7 _ (hFr.hF q hq).2.1⟩
  refine S_ForG (α := Quad) ?_ (by intro _; with_unfolding_all rfl)
  walk_at "go"
  refine ⟨.list fra, FL, fun q => .ref q.1, fun done m φ'' => m "near" = some (.ref D1) ∧ LeB r φ' φ'' ∧ Tab φ'' wa r (app w v (done.map pr)), from_lst hfl, .inr ⟨⟨_, _, _, rfl⟩, ⟨_, rfl⟩, fun x hx => ?_⟩, fun done m φ'' hI => ok_lst (hI.2.1.look hfl nfra), ⟨m1, .refl _ _, by rw [List.map_nil, app_nil]; exact T4⟩, fun done q rest m φ'' hSq hI => ?_, fun m φ'' hI => ?_⟩
  · obtain ⟨q, _, rfl⟩ := List.mem_map.mp hx
    exact ⟨_, rfl⟩
  · obtain ⟨m1, lb, T5⟩ := hI
    have hqF := mid_mem hSq
    obtain ⟨qa, a, b, l⟩ := q
    obtain ⟨ha, hb, hab, hl, _⟩ := hFr.hF _ hqF
    obtain ⟨ha7, hb7⟩ := hq7 _ hqF
    have ha7 : a < 7 := ha7
    have hb7 : b < 7 := hb7
    have hl : l = via w v a b := hl
    have hqt : φ'' qa = some (.tup [.int (a : Int) 0, .int (b : Int) 0, .int l 0]) := lb.look (hft _ hqF) (fun i hi => ne_tl (hft _ hqF) (T4.row i hi))
    have hw5 := lb.look hw4 nc1
    have hp5 := lb.look hp4 nc2
    refine T_triples hqt ?_ (by with_unfolding_all rfl)
    walk_at "go"
    have T6 := T5.set inj ha7 b (some l)
    have lb6 := lb.upd (o := .lst (row (bset (app w v (done.map pr) a) b (some l)))) ha7
    have hw6 := lb6.look hw4 nc1
    generalize upd φ'' (r a) (.lst (row (bset (app w v (done.map pr) a) b (some l)))) = φ6 at T6 lb6 hw6 ⊢
    walk_at "go"
    refine ⟨by walk_at "lkm", lb6.upd hb7, ?_⟩
    have T7 := T6.set inj hb7 a (some l)
    rw [hl, app_step gw] at T7
    rw [List.map_append]
    rw [hl]
    exact T7
  obtain ⟨m1, lb, T5⟩ := hI
  walk_at "go"
  have hw5 := lb.look hw4 nc1
  have hp5 := lb.look hp4 nc2
  have hnear5 := lb.look hnear4 nD1
  have hfv : ∀ p ∈ FL.map pr, p.1 ≠ v ∧ p.2 ≠ v := fun p hp => by
    obtain ⟨q, hq, rfl⟩ := List.mem_map.mp hp
    obtain ⟨h1, h2, _⟩ := hFr.hF q hq
    exact ⟨((hnm _).mp h1).2.1, ((hnm _).mp h2).2.1⟩
  have hK : Contr w left v others (app w v (FL.map pr)) := by
    refine Contr.of_app gw hS hv (fun a b h => ?_) fun a b x y ha hb hlt hx hy => ?_
    · obtain ⟨q, hq, e⟩ := List.mem_map.mp h
      obtain ⟨h1, h2, h3, h4, h5⟩ := hFr.hF q hq
      unfold pr at e
      cases e
      obtain ⟨_, _, x, hx⟩ := (hnm _).mp h1
      obtain ⟨_, _, y, hy⟩ := (hnm _).mp h2
      have hx' : w q.2.1 v = some x := by rw [gw.sym]; exact hx
      have hvia : via w v q.2.1 q.2.2.1 = x + y := by unfold via; rw [hx', hy]; rfl
      exact ⟨Nat.ne_of_lt h3, hno _ h1, hno _ h2, x, y, hx', hy, fun k p => hvia ▸ h5 k p⟩
    · have hvia : via w v a b = x + y := by unfold via; rw [hx, hy]; rfl
      have han : a ∈ near := (hnm a).mpr ⟨((hS a).mp ha).1, ((hS a).mp ha).2, x, by rw [gw.sym]; exact hx⟩
      have hbn : b ∈ near := (hnm b).mpr ⟨((hS b).mp hb).1, ((hS b).mp hb).2, y, hy⟩
      rcases hFr.hC a b ⟨han, hbn⟩ hlt with ⟨q, hq, h1, h2⟩ | h
      · exact .inl (List.mem_map.mpr ⟨q, hq, by unfold pr; rw [h1, h2]⟩)
      · rw [hvia] at h; exact .inr h
  have hv' : ∀ z, app w v (FL.map pr) v z = w v z := app_v hfv
  have lbφ : LeB r φ φ'' := LeB.of le04 lb
  generalize app w v (FL.map pr) = w' at T5 hK hv'
  walk_at "lc"
  walk_at "go"
  refine ⟨.list D1, near, fun (x : Nat) => .int (x : Int) 0, from_nats hnear5, by omega, fun Cl2 ce2 hfr2 K2 => ?_⟩
  have k21 : Loc ce2 "w" := loc_of K2.s (by decide +kernel)
  have k22 : Cel ce2 "ways" (L + 1) := cel_of K2.s (by rw [K2.c]; rfl) (by decide +kernel)
  have k23 : Cel ce2 "v" (L + 1 + 1) := cel_of K2.s (by rw [K2.c]; rfl) (by decide +kernel)
  clear K2
  refine ⟨fun done ys mc φ' => ∃ SS : List (Addr × Nat × Int), ys = SS.map (fun q => Value.ref q.1) ∧ SS.map (fun q => q.2) = leadsOf w' done v ∧ (∀ q ∈ SS, φ' q.1 = some (.tup [.int (q.2.1 : Int) 0, .int q.2.2 0])) ∧ Le φ'' φ', ⟨fun done ys mc φ' hJ => ?_, fun done2 z rest2 ys mc φ' hS2 hJ => ?_⟩, ⟨[], rfl, rfl, fun _ h => (by cases h), .refl _⟩, fun ys mc φ' D hJ hD => ?_⟩
  · obtain ⟨SS, _, _, _, le4⟩ := hJ
    exact ok_nats (le4 _ _ hnear5)
  · obtain ⟨SS, rfl, hs, hq, le6⟩ := hJ
    have hzn := mid_mem hS2
    have hz : z < 7 := hn7 z hzn
    obtain ⟨_, _, y, hy⟩ := (hnm z).mp hzn
    have hy' : w' v z = some y := by rw [hv']; exact hy
    have hw6 := le6 _ _ hw5
    have hp6 := le6 _ _ hp5
    have T6 := T5.le le6
    walk_at "go"
    refine ⟨by simp, fun a ha => ?_⟩
    obtain ⟨e1, e2, e3⟩ := pairs_step hs hq ((Le.refl φ').alloc ha) (upd_same φ' a (.tup [.int (z : Int) 0, .int y 0]))
    exact ⟨_, e1.symm, by rw [e2, leads_take hy'], e3, le6.alloc ha⟩
  · obtain ⟨SS, rfl, hs, hq, le6⟩ := hJ
    walk_at "go"
    have le7 : Le φ'' (upd φ' D (.lst (SS.map fun q => Value.ref q.1))) := le6.alloc hD
    refine ⟨D, leadsOf w' near v, w', rfl, ?_, ⟨SS, upd_same .., hs, fun q hq' => upd_old hD (hq q hq')⟩, Nat.le_trans leads_len hnl, T5.le le7, lbφ.le le7, hO ▸ hK, fun z l => ?_⟩
    · cases hφD : φ D with
      | none => rfl
      | some o =>
        exfalso
        by_cases hr : ∃ i, i < 7 ∧ D = r i
        · obtain ⟨i, hi, e⟩ := hr
          rw [e, le6 _ _ (T5.row i hi)] at hD; cases hD
        · have := le6 _ _ (lbφ D o hφD fun i hi e => hr ⟨i, hi, e⟩)
          rw [this] at hD; cases hD
    · rw [mem_leadsOf, hv']
      exact ⟨fun ⟨h1, h2⟩ => ⟨hno z h1, h2⟩, fun ⟨h1, h2⟩ => ⟨(hnm z).mpr ⟨((hS z).mp h1).1, ((hS z).mp h1).2, l, h2⟩, h2⟩⟩
end

/-- the law's own defs -/
structure LawFns (C : Cx) where
  hf : HeapFns C
  a10 : Addr
  table : FnOk C "_law_table" a10 (fnP 10) (fnB 10) (fnS 10)
  a11 : Addr
  search : FnOk C "_law_search" a11 (fnP 11) (fnB 11) (fnS 11)
  a12 : Addr
  leads : FnOk C "_law_leads" a12 (fnP 12) (fnB 12) (fnS 12)
  a13 : Addr
  go : FnOk C "_law_go" a13 (fnP 13) (fnB 13) (fnS 13)
  a14 : Addr
  degree : FnOk C "_law_degree" a14 (fnP 14) (fnB 14) (fnS 14)
  list : Blt C "list" (.type "list")
  min : Blt C "min" (.builtin "min")
def stale (w : Gr) (left : List Nat) (ks : List (Int × Int)) : Nat := ks.countP fun p => p.1 != ((deg w left p.2.toNat : Nat) : Int)
structure StI (X : SP) (φ : Phi) (E0 : Edg) (fi : Gr) (n : Nat) (φ' : Phi) : Prop where
  ex : ∃ hs ps left w ru up key, SG X φ fi hs ps left w ru up key φ' ∧ HeapFrom key 0 hs ∧ (hs.map key).Perm (ps.map key) ∧ ((ps.map key).map Prod.snd).Perm (left.map fun (x : Nat) => (x : Int)) ∧ left.Nodup ∧ left.length ≤ 7 ∧
    CH E0 w left up ∧ (∀ u, u < 7 → (up u).length ≤ 7) ∧ n = 8 * left.length + stale w left (ps.map key)
section
variable {C : Cx} {d : Nat} {φ : Phi} {f : Addr}
theorem stages_ok (LF : LawFns C) (H : FnOk C "_law_stages" f (fnP 15) (fnB 15) (fnS 15))
    {wa fa : Addr} {r rf : Nat → Addr} {w0 fi : Gr} (T : Tab φ wa r w0) (inj : ∀ i j, i < 7 → j < 7 → r i = r j → i = j) (Tf : Tab φ fa rf fi) (hrr : ∀ i, i < 7 → ∀ j, j < 7 → rf i ≠ r j) (gw : Good w0)
    (hfi : ∀ a, a < 7 → ∀ b, b < 7 → IsDist (EdW w0 (List.range 7)) a b (fi a b)) :
    Ct C 6 f [.ref wa, .ref fa] (fun u φ' => ∃ ua ru up w', u = .ref ua ∧ Adj φ' ua ru up ∧ CH (EdW w0 (List.range 7)) w' [] up ∧ (∀ u, u < 7 → (up u).length ≤ 7) ∧ LeB r φ φ') φ := by
  have G := LF.hf.g
  have HF := LF.hf
  have H4 := HF.ify
  have H2 := HF.pop
  have H3 := HF.replace
  have H10 := LF.table
  have H13 := LF.go
  have H14 := LF.degree
  have b1 := LF.list
  have b2 := LF.min
  have b3 := HF.range
  refine Ct_def2 G H (n1 := "ways") (n2 := "first") (fun pm cd doc v1 v2 => by rfl) (hk := by rfl) (hco := by rfl) (hgen := by rfl) fun L cd hL env he => ?_
  have hsc : env.scope = fnS 15 := by rw [he]; rfl
  have hgl : env.globals = mainGlobals := by rw [he]; rfl
  have hbl : env.builtins = builtinsNs := by rw [he]; rfl
  have hce : env.cells = cellsFrom (L + 1) (fnS 15).names [] := by rw [he]; rfl
  have hbk : env.blockKind = .function := by rw [he]; rfl
  have c1 : Cel env "ways" (L + 1) := cel_of hsc (by rw [hce]; rfl) (by decide +kernel)
  have c2 : Cel env "left" (L + 1 + 1) := cel_of hsc (by rw [hce]; rfl) (by decide +kernel)
  have n1 : Loc env "first" := by walk_at "loc"
  have n2 : Loc env "heap" := by walk_at "loc"
  have n3 : Loc env "plain" := by walk_at "loc"
  have n4 : Loc env "upward" := by walk_at "loc"
  have n5 : Loc env "due" := by walk_at "loc"
  have n6 : Loc env "now" := by walk_at "loc"
  have n7 : Loc env "leads" := by walk_at "loc"
  have n8 : Loc env "table" := by walk_at "loc"
  have n9 : Loc env "a" := by walk_at "loc"
  have n10 : Loc env "b" := by walk_at "loc"
  have g1 : Glb env "_law_degree" := by walk_at "glb"
  have g2 : Glb env "heapify" := by walk_at "glb"
  have g3 : Glb env "heapreplace" := by walk_at "glb"
  have g4 : Glb env "heappop" := by walk_at "glb"
  have g5 : Glb env "_law_go" := by walk_at "glb"
  have g6 : Glb env "_law_table" := by walk_at "glb"
  have g7 : Glb env "list" := by walk_at "glb"
  have g8 : Glb env "range" := by walk_at "glb"
  have g9 : Glb env "min" := by walk_at "glb"
  have hi : interactive env = false := by rw [he]; rfl
  have e1 := fr1 hL
  have e2 := fr2 hL
  have e3 : L + 1 ≠ L + 1 + 1 := fr12
  show Bind _ _ _ _ _ _ (upd (upd φ (L + 1) (.cell none)) (L + 1 + 1) (.cell none))
  refine Bind_cell c1 (by walk_at "lkp") (Bind_local n1 (Bind_nil ?_))
  show Ss _ _ _ (fnB 15) _ _ _
  clear he
  conv in (fnB 15) => whnf
  refine Ss_cons ?_
  refine A_cell c2 ?_ (by with_unfolding_all rfl)
  walk_at "go"
  refine V_range (n := 7) fun ra hra => ?_
  walk_at "go"
  refine CallV_listRange (n := 7) (by walk_at "lkp") (by decide) fun la hla => ⟨_, by walk_at "lkp", ?_⟩
  have le1 : Le φ (upd (upd (upd (upd (upd (upd φ (L + 1) (.cell none)) (L + 1 + 1) (.cell none)) (L + 1) (.cell (some (.ref wa)))) ra (.rng 0 ((7 : Nat) : Int) 1)) la (.lst (nats (List.range 7)))) (L + 1 + 1) (.cell (some (.ref la)))) := by walk_at "le"
  have hc1 : upd (upd (upd (upd (upd (upd φ (L + 1) (.cell none)) (L + 1 + 1) (.cell none)) (L + 1) (.cell (some (.ref wa)))) ra (.rng 0 ((7 : Nat) : Int) 1)) la (.lst (nats (List.range 7)))) (L + 1 + 1) (.cell (some (.ref la))) (L + 1) = some (.cell (some (.ref wa))) := by walk_at "lkp"
  have hc2 : upd (upd (upd (upd (upd (upd φ (L + 1) (.cell none)) (L + 1 + 1) (.cell none)) (L + 1) (.cell (some (.ref wa)))) ra (.rng 0 ((7 : Nat) : Int) 1)) la (.lst (nats (List.range 7)))) (L + 1 + 1) (.cell (some (.ref la))) (L + 1 + 1) = some (.cell (some (.ref la))) := upd_same ..
  have hl1 : upd (upd (upd (upd (upd (upd φ (L + 1) (.cell none)) (L + 1 + 1) (.cell none)) (L + 1) (.cell (some (.ref wa)))) ra (.rng 0 ((7 : Nat) : Int) 1)) la (.lst (nats (List.range 7)))) (L + 1 + 1) (.cell (some (.ref la))) la = some (.lst (nats (List.range 7))) := by walk_at "lkp"
  have HLA : φ la = none := (by walk_at "le" : Le φ (upd (upd (upd (upd φ (L + 1) (.cell none)) (L + 1 + 1) (.cell none)) (L + 1) (.cell (some (.ref wa)))) ra (.rng 0 ((7 : Nat) : Int) 1))).none hla
  change seqK _ _ _ _ _ _ _ (upd (upd (upd (upd (upd (upd φ (L + 1) (.cell none)) (L + 1 + 1) (.cell none)) (L + 1) (.cell (some (.ref wa)))) ra (.rng 0 ((7 : Nat) : Int) 1)) la (.lst (nats (List.range 7)))) (L + 1 + 1) (.cell (some (.ref la))))
  generalize upd (upd (upd (upd (upd (upd φ (L + 1) (.cell none)) (L + 1 + 1) (.cell none)) (L + 1) (.cell (some (.ref wa)))) ra (.rng 0 ((7 : Nat) : Int) 1)) la (.lst (nats (List.range 7)))) (L + 1 + 1) (.cell (some (.ref la))) = φ1 at le1 hc1 hc2 hl1 ⊢
  have hla0 : φ la = none := HLA
  clear hra hla
  have h77 : ∀ x ∈ List.range 7, x < 7 := fun x hx => range7.mp hx
  -- heap
  walk_at "go"
  walk_at "lc"
  walk_at "go"
  refine ⟨.list la, List.range 7, fun (x : Nat) => .int (x : Int) 0, from_nats hl1, by decide, fun Cl ce hfr K => ?_⟩
  have k1 : Loc ce "v" := loc_of K.s (by decide +kernel)
  have k2 : Cel ce "ways" (L + 1) := cel_of K.s (by rw [K.c]; rfl) (by decide +kernel)
  have k3 : Cel ce "left" (L + 1 + 1) := cel_of K.s (by rw [K.c]; rfl) (by decide +kernel)
  have k4 : Glb ce "_law_degree" := glb_of K.s K.g K.b (by decide +kernel)
  clear K
  refine ⟨fun done ys mc φ' => ∃ key : Key, (∀ v ∈ ys, IsP φ' v (key v)) ∧ ys.map key = done.map (fun x => (((deg w0 (List.range 7) x : Nat) : Int), (x : Int))) ∧ Le φ1 φ', ⟨fun done ys mc φ' hJ => ?_, fun done x rest ys mc φ' hS hJ => ?_⟩, ⟨fun _ => (0, 0), fun _ h => (by cases h), rfl, .refl _⟩, fun ys mc φ' ha hJ hha => ?_⟩
  · obtain ⟨_, _, _, le2⟩ := hJ
    exact ok_nats (le2 _ _ hl1)
  · obtain ⟨key, hk, hks, le2⟩ := hJ
    have hx := h77 x (mid_mem hS)
    have hc1' := le2 _ _ hc1
    have hc2' := le2 _ _ hc2
    walk_at "go"
    refine V_fn (degree_ok G H14 HF.len (T.le (le1.trans le2)) (le2 _ _ hl1) h77 (by decide) hx) (by omega) fun u φ2 hu => ?_
    obtain ⟨rfl, rfl⟩ := hu
    walk_at "go"
    refine ⟨by simp, fun a ha => ?_⟩
    obtain ⟨key', hk1, hk2⟩ := key_new ((((deg w0 (List.range 7) x : Nat) : Int), (x : Int))) ha hk
    refine ⟨key', fun v hv => ?_, ?_, le2.alloc ha⟩
    · rcases List.mem_append.mp hv with h | h
      · rw [hk2 v h]; exact (hk v h).le ((Le.refl _).alloc ha)
      · rw [List.mem_singleton.mp h, hk1]; exact ⟨a, rfl, upd_same ..⟩
    · rw [List.map_append, List.map_append, List.map_congr_left hk2, hks, List.map_singleton, hk1]; rfl
  obtain ⟨key, hk, hks, le2⟩ := hJ
  clear hfr k1 k2 k3 k4
  have hysl : ys.length = 7 := by
    have := congrArg List.length hks
    rwa [List.length_map, List.length_map, List.length_range] at this
  have hha0 : φ ha = none := (le1.trans le2).none hha
  have hlh : la ≠ ha := ne_of_fresh hha (le2 _ _ hl1)
  have le3 := le2.alloc (x := .lst ys) hha
  have hh3 : upd φ' ha (.lst ys) ha = some (.lst ys) := upd_same ..
  have hk3 : ∀ v ∈ ys, IsP (upd φ' ha (.lst ys)) v (key v) := fun v hv => (hk v hv).le ((Le.refl _).alloc hha)
  change seqK _ _ _ _ _ _ _ (upd φ' ha (.lst ys))
  generalize upd φ' ha (.lst ys) = φ3 at le3 hh3 hk3 ⊢
  clear hha hk le2
  walk_at "go"
  refine CallV_listSeq hh3 fun pa hpa => ?_
  have hpa0 : φ pa = none := (le1.trans le3).none hpa
  have hlp : la ≠ pa := ne_of_fresh hpa (le3 _ _ hl1)
  have hhp : ha ≠ pa := ne_of_fresh hpa hh3
  have le34 : Le φ3 (upd φ3 pa (.lst ys)) := (Le.refl _).alloc hpa
  have hp4 : upd φ3 pa (.lst ys) pa = some (.lst ys) := upd_same ..
  change seqK _ _ _ _ _ _ _ (upd φ3 pa (.lst ys))
  generalize upd φ3 pa (.lst ys) = φ4 at le34 hp4 ⊢
  have hh4 := le34 _ _ hh3
  have le4 := le3.trans le34
  have hk4 : ∀ v ∈ ys, IsP φ4 v (key v) := fun v hv => (hk3 v hv).le le34
  walk_at "go"
  refine V_fn (heapify_ok HF (key := key) hh4 hk4 (by omega)) (by omega) fun u φ5 hu => ?_
  obtain ⟨rfl, zs, hzp, hzo, rfl⟩ := hu
  have hpz : upd φ4 ha (.lst zs) pa = some (.lst ys) := upd_ne (Ne.symm hhp) hp4
  have hhz : upd φ4 ha (.lst zs) ha = some (.lst zs) := upd_same ..
  have hlz : upd φ4 ha (.lst zs) la = some (.lst (nats (List.range 7))) := upd_ne hlh (le4 _ _ hl1)
  have hc1z : upd φ4 ha (.lst zs) (L + 1) = some (.cell (some (.ref wa))) := upd_ne (ne_cl (le4 _ _ hc1) hh4) (le4 _ _ hc1)
  have hc2z : upd φ4 ha (.lst zs) (L + 1 + 1) = some (.cell (some (.ref la))) := upd_ne (ne_cl (le4 _ _ hc2) hh4) (le4 _ _ hc2)
  have hkz : ∀ v ∈ ys, IsP (upd φ4 ha (.lst zs)) v (key v) := fun v hv => (hk4 v hv).updL hh4
  have lez : Le φ (upd φ4 ha (.lst zs)) := (le1.trans le4).set hha0
  walk_at "go"
  generalize upd φ4 ha (.lst zs) = φ5 at hpz hhz hlz hc1z hc2z hkz lez ⊢
  clear hk4 hk3 hh3 hh4 hp4 hc1 hc2 hl1 hpa le34 le3 le4 le1
  -- upward
  walk_at "lc"
  walk_at "go"
  refine ⟨.list la, List.range 7, fun (x : Nat) => .int (x : Int) 0, from_nats hlz, by decide, fun Cl ce hfr K => ?_⟩
  have k1 : Loc ce "v" := loc_of K.s (by decide +kernel)
  clear K
  refine ⟨fun done ys mc φ' => ∃ ru, ys = done.map (fun i => .ref (ru i)) ∧ Bld (fun φ i a => PL φ a []) φ5 φ' done ru, ⟨fun done ys mc φ' hJ => ?_, fun done x rest ys mc φ' hS hJ => ?_⟩, ⟨r, rfl, .start (.refl _)⟩, fun us mc φ' ua hJ hua => ?_⟩
  · obtain ⟨_, _, B⟩ := hJ
    exact ok_nats (B.le _ _ hlz)
  · obtain ⟨ru, rfl, B⟩ := hJ
    walk_at "go"
    refine ⟨by simp, fun a ha => ?_⟩
    obtain ⟨B', e⟩ := B.step (φ' := upd φ' a (.lst [])) (fun _ _ _ _ l h => h.le l) (mid_not range7_nodup hS) ((Le.refl _).alloc ha) ha ⟨[], upd_same .., rfl, fun _ h => (by cases h)⟩ (upd_same ..)
    exact ⟨_, e.symm, B'⟩
  obtain ⟨ru, rfl, B⟩ := hJ
  clear hfr k1
  have B5 := B.le
  have le6 : Le φ5 (upd φ' ua (.lst (refs ru))) := B.le.alloc hua
  have hA : Adj (upd φ' ua (.lst (refs ru))) ua ru (fun _ => []) := ⟨upd_same .., fun i hi => (B.has i (range7.mpr hi)).le ((Le.refl _).alloc hua)⟩
  have hru : ∀ i, i < 7 → φ5 (ru i) = none := fun i hi => B.new i (range7.mpr hi)
  have hD : SDis ⟨L + 1, L + 1 + 1, wa, fa, la, ha, pa, ua, r, rf⟩ φ := ⟨hlh, hlp, ne_of_fresh hua (B5 _ _ hlz), hhp, ne_of_fresh hua (B5 _ _ hhz), ne_of_fresh hua (B5 _ _ hpz), hla0, hha0, hpa0, (lez.trans B5).none hua, ⟨_, T.own⟩, ⟨_, Tf.own⟩, fun i hi => ⟨_, T.row i hi⟩, fun i hi => ⟨_, Tf.row i hi⟩, hrr⟩
  have hSG : SG ⟨L + 1, L + 1 + 1, wa, fa, la, ha, pa, ua, r, rf⟩ φ fi zs ys (List.range 7) w0 ru (fun _ => []) key (upd φ' ua (.lst (refs ru))) :=
    ⟨le6 _ _ hc1z, le6 _ _ hc2z, le6 _ _ hlz, le6 _ _ hhz, le6 _ _ hpz, T.le (lez.trans le6), Tf.le (lez.trans le6), hA, fun v hv => (hkz v (hzp.mem_iff.mp hv)).le le6, fun v hv => (hkz v hv).le le6, fun i hi => Ne.symm (ne_of_fresh (hru i hi) hlz), fun i hi => Ne.symm (ne_of_fresh (hru i hi) hhz), fun i hi => Ne.symm (ne_of_fresh (hru i hi) hpz),
      fun i hi => (by obtain ⟨o, ho⟩ := B.is i (range7.mpr hi); exact ne_of_fresh hua ho), fun i hi j hj => Ne.symm (ne_of_fresh (hru i hi) (lez _ _ (T.row j hj))), LeB.of (lez.trans le6) (.refl _ _)⟩
  have hCH : CH (EdW w0 (List.range 7)) w0 (List.range 7) (fun _ => []) := CH.start gw fun a => range7
  change seqK _ _ _ _ _ _ _ (upd φ' ua (.lst (refs ru)))
  generalize upd φ' ua (.lst (refs ru)) = φ6 at hSG ⊢
  walk_at "go"
  refine S_While (fun n m φ' => m "heap" = some (.ref ha) ∧ m "plain" = some (.ref pa) ∧ m "upward" = some (.ref ua) ∧ m "first" = some (.ref fa) ∧ StI ⟨L + 1, L + 1 + 1, wa, fa, la, ha, pa, ua, r, rf⟩ φ (EdW w0 (List.range 7)) fi n φ') _
    ⟨by walk_at "lkm", by walk_at "lkm", by walk_at "lkm", by walk_at "lkm", ⟨zs, ys, List.range 7, w0, ru, fun _ => [], key, hSG, hzo, hzp.map key, by rw [hks, List.map_map]; exact .refl _, range7_nodup, by decide, hCH, fun _ _ => Nat.zero_le _, rfl⟩⟩ fun n m φ' hI => ?_
  clear hSG hCH hks hzp hzo hysl hru hA le6 B5 B hua hkz hc1z hc2z hlz hhz hpz lez
  obtain ⟨m1, m2, m3, m4, ⟨hs, ps, left, w, ru, up, key, hS, hord, hperm, hleft, hnd, hl7, hCH, hup, rfl⟩⟩ := hI
  walk_at "go"
  refine ⟨by simp, fun tb htb => ?_⟩
  have hS := hS.le ((Le.refl _).alloc (x := .lst []) htb)
  refine Op_ne_nil hS.pa (upd_same ..) ?_
  generalize upd φ' tb (.lst []) = φ7 at hS ⊢
  have opa : φ7 pa = some (.lst ps) := hS.pa
  walk_at "go"
  refine if_b (fun hne => ?_) fun hem => ?_
  · have hne : ps ≠ [] := fun e => by rw [e] at hne; cases hne
    have hlen : hs.length = ps.length := by have := hperm.length_eq; rwa [List.length_map, List.length_map] at this
    have h0 : 0 < hs.length := by rw [hlen]; exact List.length_pos_iff.mpr hne
    walk_at "go"
    refine CallV_min (key := key) opa hne hS.kp fun due hdue hmn => ?_
    walk_at "go"
    refine E_remove (key := key) ?_ (by with_unfolding_all rfl) (by with_unfolding_all rfl) (by with_unfolding_all rfl)
    walk_at "go"
    refine ⟨pa, ps, rfl, opa, ?_⟩
    walk_at "go"
    refine ⟨opa, hS.kp, hdue, fun y ys hy hky hpy => ?_⟩
    have hdk : IsP (upd φ7 pa (.lst ys)) due (key due) := (hS.kp due hdue).updL opa
    have hS8 := hS.setP hD (ps' := ys) fun v hv => hS.kp v (hpy.mem_iff.mpr (.tail _ hv))
    change SG _ _ _ _ _ _ _ _ _ _ (upd φ7 pa (.lst ys)) at hS8
    generalize upd φ7 pa (.lst ys) = φ8 at hdk hS8 ⊢
    -- the top
    have htop : at_ hs 0 ∈ hs := at_mem h0
    have heq : key (at_ hs 0) = key due := by
      have h1 : key due ∈ hs.map key := hperm.mem_iff.mpr (List.mem_map_of_mem hdue)
      obtain ⟨v1, h2, h3⟩ := List.mem_map.mp h1
      have h4 := hord.first_mem h2
      rw [h3] at h4
      have h5 : key (at_ hs 0) ∈ ps.map key := hperm.mem_iff.mp (List.mem_map_of_mem htop)
      obtain ⟨v2, h6, h7⟩ := List.mem_map.mp h5
      have h8 := hmn v2 h6
      rw [h7] at h8
      exact ple_antisymm h4 h8
    obtain ⟨v, hv, hv2⟩ : ∃ v ∈ left, (v : Int) = (key due).2 := by
      have h1 : (key due).2 ∈ (ps.map key).map Prod.snd := List.mem_map_of_mem (List.mem_map_of_mem hdue)
      exact List.mem_map.mp (hleft.mem_iff.mp h1)
    obtain ⟨k, hk⟩ : ∃ k, key due = (k, (v : Int)) := ⟨(key due).1, Prod.ext rfl hv2.symm⟩
    have hv7 : v < 7 := hCH.lt v hv
    have htk : IsP φ8 (at_ hs 0) (k, (v : Int)) := by rw [← hk, ← heq]; exact hS8.kh _ htop
    rw [hk] at hdk heq hky
    obtain ⟨da, rfl, hda⟩ := hdk
    have hdk : IsP φ8 (.ref da) (k, (v : Int)) := ⟨da, rfl, hda⟩
    have hda : φ8 da = some (.tup [.int k 0, .int (v : Int) 0]) := hda
    have hkps : (ps.map key).Perm ((k, (v : Int)) :: ys.map key) := by
      have := hpy.map key
      rwa [List.map_cons, hky] at this
    have oc1 : φ8 (L + 1) = some (.cell (some (.ref wa))) := hS8.c1
    have oc2 : φ8 (L + 1 + 1) = some (.cell (some (.ref la))) := hS8.c2
    have oha : φ8 ha = some (.lst hs) := hS8.ha
    have opa8 : φ8 pa = some (.lst ys) := hS8.pa
    walk_at "go"
    refine V_fn (degree_ok G H14 HF.len hS8.T hS8.la hCH.lt hl7 hv7) (by omega) fun u φ9 hu => ?_
    obtain ⟨rfl, rfl⟩ := hu
    walk_at "go"
    rw [show ((k, (v : Int)) != (k, (v : Int))) = false from bne_self_eq_false ..]
    walk_at "go"
    refine if_b (fun hb => ?_) fun hb => ?_
    · have hys : ys.length + 1 = ps.length := hpy.length_eq.symm
      have hpl : ps.length = left.length := by have := hleft.length_eq; simpa using this
      walk_at "go"
      refine E_append ?_ (by with_unfolding_all rfl) (by with_unfolding_all rfl) (by with_unfolding_all rfl)
      walk_at "go"
      refine ⟨pa, rfl, ⟨_, opa8⟩, ?_⟩
      walk_at "go"
      refine ⟨by simp, fun t1 ht1 => ?_⟩
      refine ⟨ys, upd_old ht1 opa8, by omega, ?_⟩
      have hya : ∀ v ∈ hs ++ ys, IsP φ9 v (key v) := fun v hv => (List.mem_append.mp hv).elim (hS8.kh v) (hS8.kp v)
      obtain ⟨key1, hk11, hk12⟩ := key_new (((deg w left v : Nat) : Int), (v : Int)) ht1 hya
      have hS9 := ((hS8.rekey (fun v hv => hk12 v (List.mem_append_left _ hv)) (fun v hv => hk12 v (List.mem_append_right _ hv))).le ((Le.refl _).alloc (x := .tup [.int ((deg w left v : Nat) : Int) 0, .int (v : Int) 0]) ht1))
      have ht1' : IsP (upd φ9 t1 (.tup [.int ((deg w left v : Nat) : Int) 0, .int (v : Int) 0])) (.ref t1) (key1 (.ref t1)) := by rw [hk11]; exact ⟨t1, rfl, upd_same ..⟩
      have htk9 := htk.le ((Le.refl _).alloc (x := .tup [.int ((deg w left v : Nat) : Int) 0, .int (v : Int) 0]) ht1)
      have hdk9 := hdk.le ((Le.refl _).alloc (x := .tup [.int ((deg w left v : Nat) : Int) 0, .int (v : Int) 0]) ht1)
      have hp9 := upd_old (x := .tup [.int ((deg w left v : Nat) : Int) 0, .int (v : Int) 0]) ht1 opa8
      have hS10 := hS9.setP hD (ps' := ys ++ [.ref t1]) fun v hv => (List.mem_append.mp hv).elim (hS9.kp v) fun h => by rw [List.mem_singleton.mp h]; exact ht1'
      have htk10 := htk9.updL (ys := ys ++ [.ref t1]) hp9
      have hdk10 := hdk9.updL (ys := ys ++ [.ref t1]) hp9
      have ord1 : HeapFrom key1 0 hs := hord.congr fun v hv => hk12 v (List.mem_append_left _ hv)
      have hk1h : hs.map key1 = hs.map key := List.map_congr_left fun v hv => hk12 v (List.mem_append_left _ hv)
      have hk1p : (ys ++ [Value.ref t1]).map key1 = ys.map key ++ [(((deg w left v : Nat) : Int), (v : Int))] := by
        rw [List.map_append, List.map_singleton, hk11, List.map_congr_left fun v hv => hk12 v (List.mem_append_right _ hv)]
      change SG _ _ _ _ _ _ _ _ _ _ (upd (upd φ9 t1 (.tup [.int ((deg w left v : Nat) : Int) 0, .int (v : Int) 0])) pa (.lst (ys ++ [.ref t1]))) at hS10
      generalize upd (upd φ9 t1 (.tup [.int ((deg w left v : Nat) : Int) 0, .int (v : Int) 0])) pa (.lst (ys ++ [.ref t1])) = φ10 at hS10 htk10 hdk10 ⊢
      clear hS9 hp9 htk9 hdk9 ht1'
      have hda10 : φ10 da = some (.tup [.int k 0, .int (v : Int) 0]) := by
        obtain ⟨a, e, h⟩ := hdk10
        cases e
        exact h
      walk_at "go"
      refine ⟨by simp, fun t2 ht2 => ?_⟩
      walk_at "go"
      have hya2 : ∀ v ∈ hs ++ (ys ++ [.ref t1]), IsP φ10 v (key1 v) := fun v hv => (List.mem_append.mp hv).elim (hS10.kh v) (hS10.kp v)
      obtain ⟨key2, hk21, hk22⟩ := key_new (((deg w left v : Nat) : Int), (v : Int)) ht2 hya2
      have hS11 := ((hS10.rekey (fun v hv => hk22 v (List.mem_append_left _ hv)) (fun v hv => hk22 v (List.mem_append_right _ hv))).le ((Le.refl _).alloc (x := .tup [.int ((deg w left v : Nat) : Int) 0, .int (v : Int) 0]) ht2))
      have ht2' : IsP (upd φ10 t2 (.tup [.int ((deg w left v : Nat) : Int) 0, .int (v : Int) 0])) (.ref t2) (key2 (.ref t2)) := by rw [hk21]; exact ⟨t2, rfl, upd_same ..⟩
      have htk11 := htk10.le ((Le.refl _).alloc (x := .tup [.int ((deg w left v : Nat) : Int) 0, .int (v : Int) 0]) ht2)
      have hdk11 := hdk10.le ((Le.refl _).alloc (x := .tup [.int ((deg w left v : Nat) : Int) 0, .int (v : Int) 0]) ht2)
      have ord2 : HeapFrom key2 0 hs := ord1.congr fun v hv => hk22 v (List.mem_append_left _ hv)
      have hk2h : hs.map key2 = hs.map key := by rw [← hk1h]; exact List.map_congr_left fun v hv => hk22 v (List.mem_append_left _ hv)
      have hk2p : (ys ++ [Value.ref t1]).map key2 = ys.map key ++ [(((deg w left v : Nat) : Int), (v : Int))] := by
        rw [← hk1p]; exact List.map_congr_left fun v hv => hk22 v (List.mem_append_right _ hv)
      generalize upd φ10 t2 (.tup [.int ((deg w left v : Nat) : Int) 0, .int (v : Int) 0]) = φ11 at hS11 ht2' htk11 hdk11 ⊢
      have oha11 : φ11 ha = some (.lst hs) := hS11.ha
      refine V_fn (heapreplace_ok HF (key := key2) oha11 hS11.kh ht2' ord2 h0) (by omega) fun u φ12 hu => ?_
      obtain ⟨rfl, zs, hz, hzo, rfl⟩ := hu
      have hS12 := hS11.setH hD (hs' := zs) fun v hv => by
        rcases List.mem_cons.mp (hz.mem_iff.mp (.tail _ hv)) with h | h
        · rw [h]; exact ht2'
        · exact hS11.kh v h
      have htk12 := htk11.updL (ys := zs) oha11
      have hdk12 := hdk11.updL (ys := zs) oha11
      change SG _ _ _ _ _ _ _ _ _ _ (upd φ11 ha (.lst zs)) at hS12
      generalize upd φ11 ha (.lst zs) = φ12 at hS12 htk12 hdk12 ⊢
      walk_at "go"
      rw [show ((k, (v : Int)) != (k, (v : Int))) = false from bne_self_eq_false ..]
      walk_at "go"
      have hkz : (zs.map key2).Perm ((((deg w left v : Nat) : Int), (v : Int)) :: ys.map key) := by
        have h1 := hz.map key2
        rw [List.map_cons, List.map_cons, hk21, hk2h] at h1
        have e1 : key2 (at_ hs 0) = (k, (v : Int)) := by
          rw [hk22 _ (List.mem_append_left _ htop), hk12 _ (List.mem_append_left _ htop)]; exact heq
        rw [e1] at h1
        have h2 := h1.trans ((hperm.trans hkps).cons _)
        exact (h2.trans (.swap _ _ _)).cons_inv
      refine ⟨8 * left.length + stale w left ((ys ++ [Value.ref t1]).map key2), ?_, by walk_at "lkm", by walk_at "lkm", by walk_at "lkm", by walk_at "lkm", ⟨zs, ys ++ [.ref t1], left, w, ru, up, key2, hS12, hzo, ?_, ?_, hnd, hl7, hCH, hup, rfl⟩⟩
      · have h1 : stale w left (ps.map key) = stale w left (ys.map key) + 1 := by
          unfold stale
          rw [hkps.countP_eq, List.countP_cons]
          rw [if_pos]
          simp only [Int.toNat_natCast]
          rw [bne_comm]
          exact hb
        have h2 : stale w left ((ys ++ [Value.ref t1]).map key2) = stale w left (ys.map key) := by
          unfold stale
          rw [hk2p, List.countP_append, List.countP_singleton]
          simp
        omega
      · rw [hk2p]
        exact hkz.trans (List.perm_append_singleton _ _).symm
      · rw [hk2p, List.map_append]
        refine (List.perm_append_singleton _ _).trans ?_
        have := (hkps.map Prod.snd).symm.trans hleft
        exact this
    · have hkd : k = ((deg w left v : Nat) : Int) := by
        have := hb
        simp only [bne_eq_false_iff_eq] at this
        exact this.symm
      have hpl : ps.length = left.length := by have := hleft.length_eq; simpa using this
      have hne8 : hs ≠ [] := List.length_pos_iff.mp h0
      walk_at "go"
      refine V_fn (heappop_ok HF (key := key) oha hS8.kh hord hne8) (by omega) fun u φ10 hu => ?_
      obtain ⟨rfl, zs, hz, hzo, rfl⟩ := hu
      have hS9 := hS8.setH hD (hs' := zs) fun v hv => hS8.kh v (hz.mem_iff.mp (.tail _ hv))
      have htk9 := htk.updL (ys := zs) oha
      have hdk9 := hdk.updL (ys := zs) oha
      change SG _ _ _ _ _ _ _ _ _ _ (upd φ9 ha (.lst zs)) at hS9
      generalize upd φ9 ha (.lst zs) = φ10 at hS9 htk9 hdk9 ⊢
      have hda10 : φ10 da = some (.tup [.int k 0, .int (v : Int) 0]) := by
        obtain ⟨a, e, h⟩ := hdk9
        cases e
        exact h
      have oc1' : φ10 (L + 1) = some (.cell (some (.ref wa))) := hS9.c1
      have oc2' : φ10 (L + 1 + 1) = some (.cell (some (.ref la))) := hS9.c2
      walk_at "go"
      rw [show ((k, (v : Int)) != (k, (v : Int))) = false from bne_self_eq_false ..]
      walk_at "go"
      have hgo : ∀ a ∈ left, ∀ b ∈ left, ∀ k, Pth (EdW w left) a b k → ∃ d, fi a b = some d ∧ d ≤ k := fun a ha b hb k p => by
        have h1 := hCH.dist ha hb (hfi a (hCH.lt a ha) b (hCH.lt b hb))
        cases hf : fi a b with
        | none => rw [hf] at h1; exact absurd p (h1 k)
        | some d => rw [hf] at h1; exact ⟨d, rfl, h1.2 k p⟩
      refine V_fn (go_ok HF H13 LF.search LF.leads b2 hS9.T inj hS9.Tf hS9.la hCH.lt hl7 hv hCH.good hgo) (by omega) fun u φ11 hu => ?_
      obtain ⟨a, adj, w', rfl, hanew, hPL, hadl, hT', hlb, hK, hadj⟩ := hu
      have hS10 := hS9.go hD hlb hT'
      have hdk11 : IsP φ11 (.ref da) (k, (v : Int)) := hdk9.leB hS9.T hlb
      have hda11 : φ11 da = some (.tup [.int k 0, .int (v : Int) 0]) := by
        obtain ⟨a, e, h⟩ := hdk11
        cases e
        exact h
      have oua : φ11 ua = some (.lst (refs ru)) := hS10.A.own
      have hvl : v < (refs ru).length := hv7
      walk_at "go"
      have hS11 := hS10.setU hD hv7 hPL (Ne.symm (ne_of_fresh hanew hS9.la)) (Ne.symm (ne_of_fresh hanew hS9.ha)) (Ne.symm (ne_of_fresh hanew hS9.pa)) (Ne.symm (ne_of_fresh hanew hS9.A.own)) fun j hj => Ne.symm (ne_of_fresh hanew (hS9.T.row j hj))
      have hdk12 : IsP (upd φ11 ua (.lst ((refs ru).set v (.ref a)))) (.ref da) (k, (v : Int)) := hdk11.updL oua
      change SG _ _ _ _ _ _ _ _ _ _ (upd φ11 ua (.lst ((refs ru).set v (.ref a)))) at hS11
      generalize upd φ11 ua (.lst ((refs ru).set v (.ref a))) = φ12 at hS11 hdk12 ⊢
      have hda12 : φ12 da = some (.tup [.int k 0, .int (v : Int) 0]) := by
        obtain ⟨a, e, h⟩ := hdk12
        cases e
        exact h
      have oc12 : φ12 (L + 1 + 1) = some (.cell (some (.ref la))) := hS11.c2
      have ola12 : φ12 la = some (.lst (nats left)) := hS11.la
      refine E_removeI ?_ (by with_unfolding_all rfl) (by with_unfolding_all rfl) (by with_unfolding_all rfl)
      walk_at "go"
      refine ⟨la, left, rfl, ola12, ?_⟩
      walk_at "go"
      refine ⟨ola12, v, hv, rfl, ?_⟩
      have hS12 := hS11.setL hD (left' := left.erase v)
      change SG _ _ _ _ _ _ _ _ _ _ (upd φ12 la (.lst (nats (left.erase v)))) at hS12
      generalize upd φ12 la (.lst (nats (left.erase v))) = φ13 at hS12 ⊢
      have oc1' : φ13 (L + 1) = some (.cell (some (.ref wa))) := hS12.c1
      have oc2' : φ13 (L + 1 + 1) = some (.cell (some (.ref la))) := hS12.c2
      have hers : left.erase v = left.filter (· != v) := hnd.erase_eq_filter v
      have hS' : ∀ x, x ∈ left.erase v ↔ x ∈ left ∧ x ≠ v := fun x => by rw [hers, List.mem_filter]; simp
      rw [← hers] at hK
      have hadj' : ∀ z l, (z, l) ∈ adj ↔ z ∈ left.erase v ∧ w v z = some l := fun z l => by rw [hers]; exact hadj z l
      have hCH' := hCH.step hK hS' hv hadj'
      walk_at "go"
      refine V_fn (table_ok G H10 b1 hS12.T hS12.la hCH'.lt hCH'.good) (by omega) fun u φ14 hu => ?_
      obtain ⟨ta, rt, t, rfl, hTt, _, _, le14, hdt⟩ := hu
      have hS13 := hS12.le le14
      have hTf14 : Tab φ14 fa rf fi := hS13.Tf
      have oc14 : φ14 (L + 1 + 1) = some (.cell (some (.ref la))) := hS13.c2
      have ola14 : φ14 la = some (.lst (nats (left.erase v))) := hS13.la
      have hll : (left.erase v).length + 1 = left.length := by
        have h1 := List.length_erase_of_mem hv
        have h2 := List.length_pos_of_mem hv
        omega
      have hteq : ∀ a ∈ left.erase v, ∀ b ∈ left.erase v, t a b = fi a b := fun a ha b hb =>
        (hdt a ha b hb).unique (hCH'.dist ha hb (hfi a (hCH'.lt a ha) b (hCH'.lt b hb)))
      walk_at "go"
      refine S_ForG (α := Nat) ?_ (by intro _; with_unfolding_all rfl)
      walk_at "go"
      refine ⟨.list la, left.erase v, fun (x : Nat) => .int (x : Int) 0, fun done m φ' => m "heap" = some (.ref ha) ∧ m "plain" = some (.ref pa) ∧ m "upward" = some (.ref ua) ∧ m "first" = some (.ref fa) ∧ m "table" = some (.ref ta) ∧ φ' = φ14, from_nats ola14, .inl (by intro _ _; with_unfolding_all rfl), fun done m φ' hI => by obtain ⟨_, _, _, _, _, rfl⟩ := hI; exact ok_nats ola14,
        ⟨by walk_at "lkm", by walk_at "lkm", by walk_at "lkm", by walk_at "lkm", by walk_at "lkm", rfl⟩, fun done a rest m φ' hSa hI => ?_, fun m φ' hI => ?_⟩
      · obtain ⟨m1, m2, m3, m4, m5, rfl⟩ := hI
        have hal := mid_mem hSa
        have ha7 := hCH'.lt a hal
        walk_at "go"
        refine S_ForG (α := Nat) ?_ (by intro _; with_unfolding_all rfl)
        walk_at "go"
        refine ⟨.list la, left.erase v, fun (x : Nat) => .int (x : Int) 0, fun done m φ'' => m "heap" = some (.ref ha) ∧ m "plain" = some (.ref pa) ∧ m "upward" = some (.ref ua) ∧ m "first" = some (.ref fa) ∧ m "table" = some (.ref ta) ∧ m "a" = some (.int (a : Int) 0) ∧ φ'' = φ', from_nats ola14, .inl (by intro _ _; with_unfolding_all rfl), fun done m φ'' hI => by obtain ⟨_, _, _, _, _, _, rfl⟩ := hI; exact ok_nats ola14,
          ⟨by walk_at "lkm", by walk_at "lkm", by walk_at "lkm", by walk_at "lkm", by walk_at "lkm", by walk_at "lkm", rfl⟩, fun done b rest m φ'' hSb hI => ?_, fun m φ'' hI => ?_⟩
        · obtain ⟨m1, m2, m3, m4, m5, m6, rfl⟩ := hI
          have hbl := mid_mem hSb
          have hb7 := hCH'.lt b hbl
          walk_at "go"
          rw [show (t a b != fi a b) = false by rw [hteq a hal b hbl]; exact bne_self_eq_false ..]
          walk_at "go"
          exact ⟨by walk_at "lkm", by walk_at "lkm", by walk_at "lkm", by walk_at "lkm", by walk_at "lkm", by walk_at "lkm", rfl⟩
        · obtain ⟨m1, m2, m3, m4, m5, m6, rfl⟩ := hI
          walk_at "go"
          exact ⟨m1, m2, m3, m4, m5, rfl⟩
      · obtain ⟨m1, m2, m3, m4, m5, rfl⟩ := hI
        walk_at "go"
        have hkz : (zs.map key).Perm (ys.map key) := by
          have h1 := hz.map key
          rw [List.map_cons, heq] at h1
          exact (h1.trans (hperm.trans hkps)).cons_inv
        have hleft' : ((ys.map key).map Prod.snd).Perm ((left.erase v).map fun (x : Nat) => (x : Int)) := by
          have h1 := (hkps.map Prod.snd).symm.trans hleft
          rw [List.map_cons] at h1
          have h2 := (List.perm_cons_erase hv).map fun (x : Nat) => (x : Int)
          rw [List.map_cons] at h2
          exact (h1.trans h2).cons_inv
        refine ⟨8 * (left.erase v).length + stale w' (left.erase v) (ys.map key), ?_, m1, m2, m3, m4, ⟨zs, ys, left.erase v, w', _, _, key, hS13, hzo, hkz, hleft', hnd.erase v, by omega, hCH', fun u hu => ?_, rfl⟩⟩
        · have h1 : stale w' (left.erase v) (ys.map key) ≤ ys.length := by
            unfold stale
            have := List.countP_le_length (p := fun p : Int × Int => p.1 != ((deg w' (left.erase v) p.2.toNat : Nat) : Int)) (l := ys.map key)
            rwa [List.length_map] at this
          have h2 : ys.length + 1 = ps.length := hpy.length_eq.symm
          omega
        · show (if u = v then adj else up u).length ≤ 7
          by_cases e : u = v
          · rw [if_pos e]; exact hadl
          · rw [if_neg e]; exact hup u hu
  · have hps : ps = [] := by cases ps with
      | nil => rfl
      | cons _ _ => cases hem
    subst hps
    have hlf : left = [] := by
      have := hleft.length_eq
      rw [List.length_map, List.length_map, List.length_map] at this
      exact List.eq_nil_of_length_eq_zero this.symm
    subst hlf
    walk_at "go"
    exact ⟨ua, ru, up, w, rfl, hS.A, hCH, hup, hS.lb⟩
end

section
variable {C : Cx} {d : Nat} {φ : Phi} {f : Addr}
theorem meet_ok (G : Globs C) (H : FnOk C "_law_meet" f (fnP 16) (fnB 16) (fnS 16)) (hrange : Blt C "range" (.type "range")) (hmin : Blt C "min" (.builtin "min"))
    {oa ob : Addr} {f1 f2 : Nat → Option Int} {o : Option Int} (h1 : φ oa = some (.lst (row f1))) (h2 : φ ob = some (.lst (row f2)))
    (ho : (∀ k, o = some k → (∃ x p q, x < 7 ∧ f1 x = some p ∧ f2 x = some q ∧ p + q = k) ∧ ∀ x p q, f1 x = some p → f2 x = some q → k ≤ p + q) ∧ (o = none → ∀ x p q, f1 x = some p → f2 x = some q → False)) :
    Ct C 1 f [.ref oa, .ref ob] (fun u φ' => u = ov o ∧ φ' = φ) φ := by
  refine Ct.weak (P := fun u φ' => u = ov o ∧ Le φ φ') ?_ (fun u ψ ⟨e, h⟩ => ⟨φ, h, e, rfl⟩)
  refine Ct_def2 G H (n1 := "one") (n2 := "other") (fun pm cd doc v1 v2 => by rfl) (hk := by rfl) (hco := by rfl) (hgen := by rfl) fun L cd hL env he => ?_
  have hsc : env.scope = fnS 16 := by rw [he]; rfl
  have hgl : env.globals = mainGlobals := by rw [he]; rfl
  have hbl : env.builtins = builtinsNs := by rw [he]; rfl
  have hce : env.cells = cellsFrom (L + 1) (fnS 16).names [] := by rw [he]; rfl
  have hbk : env.blockKind = .function := by rw [he]; rfl
  have c1 : Cel env "one" (L + 1) := cel_of hsc (by rw [hce]; rfl) (by decide +kernel)
  have c2 : Cel env "other" (L + 1 + 1) := cel_of hsc (by rw [hce]; rfl) (by decide +kernel)
  have n1 : Loc env "sums" := by walk_at "loc"
  have g1 : Glb env "range" := by walk_at "glb"
  have g2 : Glb env "min" := by walk_at "glb"
  have hi : interactive env = false := by rw [he]; rfl
  have e1 := fr1 hL
  have e2 := fr2 hL
  have e3 : L + 1 ≠ L + 1 + 1 := fr12
  show Bind _ _ _ _ _ _ (upd (upd φ (L + 1) (.cell none)) (L + 1 + 1) (.cell none))
  refine Bind_cell c1 (by walk_at "lkp") (Bind_cell c2 (by walk_at "lkp") (Bind_nil ?_))
  show Ss _ _ _ (fnB 16) _ _ _
  rw [cells2 e3]
  clear he
  conv in (fnB 16) => whnf
  have le0 : Le φ (upd (upd φ (L + 1) (.cell (some (.ref oa)))) (L + 1 + 1) (.cell (some (.ref ob)))) := by walk_at "le"
  have hw0 : upd (upd φ (L + 1) (.cell (some (.ref oa)))) (L + 1 + 1) (.cell (some (.ref ob))) (L + 1) = some (.cell (some (.ref oa))) := by walk_at "lkp"
  have hp0 : upd (upd φ (L + 1) (.cell (some (.ref oa)))) (L + 1 + 1) (.cell (some (.ref ob))) (L + 1 + 1) = some (.cell (some (.ref ob))) := by walk_at "lkp"
  change Ss _ _ _ _ _ _ (upd (upd φ (L + 1) (.cell (some (.ref oa)))) (L + 1 + 1) (.cell (some (.ref ob))))
  generalize upd (upd φ (L + 1) (.cell (some (.ref oa)))) (L + 1 + 1) (.cell (some (.ref ob))) = φ0 at le0 hw0 hp0 ⊢
  walk_at "go"
  walk_at "lc"
  walk_at "go"
  refine V_range (n := 7) fun ra hra => ?_
  have leA : Le φ0 (upd φ0 ra (.rng 0 ((7 : Nat) : Int) 1)) := (Le.refl _).alloc hra
  have hr1 : upd φ0 ra (.rng 0 ((7 : Nat) : Int) 1) ra = some (.rng 0 ((7 : Nat) : Int) 1) := upd_same ..
  generalize upd φ0 ra (.rng 0 ((7 : Nat) : Int) 1) = φ1 at leA hr1 ⊢
  walk_at "go"
  have hw1 := leA _ _ hw0
  have hp1 := leA _ _ hp0
  have h11 := leA _ _ (le0 _ _ h1)
  have h21 := leA _ _ (le0 _ _ h2)
  refine ⟨.range 0 1, List.range 7, fun (i : Nat) => .int (i : Int) 0, from_range hr1 (by decide), by decide, fun Cl ce hfr K => ?_⟩
  have k1 : Loc ce "v" := loc_of K.s (by decide +kernel)
  have k2 : Cel ce "one" (L + 1) := cel_of K.s (by rw [K.c]; rfl) (by decide +kernel)
  have k3 : Cel ce "other" (L + 1 + 1) := cel_of K.s (by rw [K.c]; rfl) (by decide +kernel)
  clear K
  refine ⟨fun done ys mc φ' => ys = ivs (sumsOf f1 f2 done) ∧ φ' = φ1, ⟨fun done ys mc φ' hJ => ok_range, fun done x rest ys mc φ' hS hJ => ?_⟩, ⟨rfl, rfl⟩, fun ys mc φ' D hJ hD => ?_⟩
  · obtain ⟨rfl, rfl⟩ := hJ
    have hx : x < 7 := range7.mp (mid_mem hS)
    walk_at "go"
    refine if_some (fun p hp => ?_) fun hn => ?_
    · walk_at "go"
      refine if_some (fun q hq => ?_) fun hn => ?_
      · walk_at "go"
        exact ⟨sums_take hp hq, rfl⟩
      · walk_at "go"
        exact ⟨sums_skip (.inr hn), rfl⟩
    · walk_at "go"
      exact ⟨sums_skip (.inl hn), rfl⟩
  · obtain ⟨rfl, rfl⟩ := hJ
    have hD1 : upd φ' D (.lst (ivs (sumsOf f1 f2 (List.range 7)))) D = some (.lst (ivs (sumsOf f1 f2 (List.range 7)))) := upd_same ..
    have leD : Le φ (upd φ' D (.lst (ivs (sumsOf f1 f2 (List.range 7))))) := (le0.trans leA).alloc hD
    generalize upd φ' D (.lst (ivs (sumsOf f1 f2 (List.range 7)))) = φ2 at hD1 leD ⊢
    walk_at "go"
    refine ⟨by simp, fun tb htb => ?_⟩
    refine Op_ne_nil (upd_old htb hD1) (upd_same ..) ?_
    walk_at "go"
    have mem : ∀ x p q, f1 x = some p → f2 x = some q → x < 7 → p + q ∈ sumsOf f1 f2 (List.range 7) := fun x p q h1 h2 hx => mem_sumsOf.mpr ⟨x, range7.mpr hx, p, q, h1, h2, rfl⟩
    refine if_b (fun hb => ?_) fun hb => ?_
    · have hne : sumsOf f1 f2 (List.range 7) ≠ [] := fun e => by rw [e] at hb; cases hb
      walk_at "go"
      refine CallV_minI (upd_old htb hD1) hne fun M hM hMin => ?_
      walk_at "go"
      refine ⟨?_, leD.alloc htb⟩
      obtain ⟨x, hx, p, q, e1, e2, e3⟩ := mem_sumsOf.mp hM
      cases o with
      | none => exact (ho.2 rfl x p q e1 e2).elim
      | some k =>
        obtain ⟨⟨x', p', q', hx', e1', e2', e3'⟩, hle⟩ := ho.1 k rfl
        have h1 := hle x p q e1 e2
        have h2 := hMin _ (mem x' p' q' e1' e2' hx')
        have : M = k := by omega
        rw [this]; rfl
    · have hne : sumsOf f1 f2 (List.range 7) = [] := by
        cases hs : sumsOf f1 f2 (List.range 7) with
        | nil => rfl
        | cons _ _ => rw [hs] at hb; cases hb
      walk_at "go"
      refine ⟨?_, leD.alloc htb⟩
      cases o with
      | none => rfl
      | some k =>
        obtain ⟨⟨x', p', q', hx', e1', e2', e3'⟩, hle⟩ := ho.1 k rfl
        have := mem x' p' q' e1' e2' hx'
        rw [hne] at this; cases this
end

theorem expK_same {C : Cx} {d : Nat} {env : Env} {b o : Expr} {Q : Value → Frm → Phi → Prop} {c : Bool} {m : Frm} {φ : Phi} {v : Value} (h1 : c = true → E C d env b (fun u m' φ' => u = v ∧ m' = m ∧ φ' = φ) m φ)
    (h2 : c = false → E C d env o (fun u m' φ' => u = v ∧ m' = m ∧ φ' = φ) m φ) (k : Q v m φ) : expK C d env b o Q c m φ := by
  cases c with
  | true => exact expK_tt (B.mono (h1 rfl) fun u m' φ' ⟨e1, e2, e3⟩ => by rw [e1, e2, e3]; exact k)
  | false => exact expK_ff (B.mono (h2 rfl) fun u m' φ' ⟨e1, e2, e3⟩ => by rw [e1, e2, e3]; exact k)
theorem Good.none : Good (fun _ _ => Option.none) := ⟨fun _ _ => rfl, fun _ _ _ h => (by cases h), fun _ => rfl⟩
theorem Good.set2 {w : Gr} (G : Good w) {a b : Nat} {l : Int} (hab : a ≠ b) (hl : 0 < l) : Good (tset (tset w a b (some l)) b a (some l)) := by
  refine ⟨fun i j => ?_, fun i j k h => ?_, fun i => ?_⟩
  · unfold tset
    by_cases h1 : i = b ∧ j = a
    · rw [if_pos h1]
      by_cases h2 : j = b ∧ i = a
      · rw [if_pos h2]
      · rw [if_neg h2, if_pos ⟨h1.2, h1.1⟩]
    · rw [if_neg h1]
      by_cases h2 : i = a ∧ j = b
      · rw [if_pos h2, if_pos ⟨h2.2, h2.1⟩]
      · rw [if_neg h2]
        rw [if_neg fun q => h2 ⟨q.2, q.1⟩, if_neg fun q => h1 ⟨q.2, q.1⟩]
        exact G.sym i j
  · unfold tset at h
    by_cases h1 : i = b ∧ j = a
    · rw [if_pos h1] at h; cases h; exact hl
    · rw [if_neg h1] at h
      by_cases h2 : i = a ∧ j = b
      · rw [if_pos h2] at h; cases h; exact hl
      · rw [if_neg h2] at h; exact G.pos _ _ _ h
  · unfold tset
    rw [if_neg fun q => hab (q.2.symm.trans q.1), if_neg fun q => hab (q.1.symm.trans q.2)]
    exact G.diag i
theorem fmod_nat (x : Int) (n : Nat) (hn : 0 < n) : ∃ a : Nat, x.fmod (n : Int) = (a : Int) ∧ a < n := by
  refine ⟨(x.fmod (n : Int)).toNat, ?_, ?_⟩
  · have := Int.fmod_nonneg_of_pos x (b := (n : Int)) (by omega)
    omega
  · have h1 := Int.fmod_nonneg_of_pos x (b := (n : Int)) (by omega)
    have h2 := Int.fmod_lt_of_pos x (b := (n : Int)) (by omega)
    omega
section
variable {C : Cx} {d : Nat} {φ : Phi} {f : Addr}
theorem ways_ok (G : Globs C) (H : FnOk C "_law_ways" f (fnP 9) (fnB 9) (fnS 9)) (b1 : Blt C "range" (.type "range")) (b2 : Blt C "list" (.type "list")) (b3 : Blt C "len" (.builtin "len")) (b4 : Blt C "sum" (.builtin "sum")) (b5 : Blt C "min" (.builtin "min")) (b6 : Blt C "abs" (.builtin "abs"))
    {ls sa : Addr} {vs : List Value} {ns sns : List Int} (HB : BL C ls vs ns) (HT : BT C sa sns) (hsa : C.mg "_law_SEEDS" = some (.ref sa)) :
    Ct C 1 f [.ref ls] (fun u φ' => ∃ wa r w, u = .ref wa ∧ Tab φ' wa r w ∧ (∀ i j, i < 7 → j < 7 → r i = r j → i = j) ∧ (∀ i, i < 7 → φ (r i) = none) ∧ Good w ∧ Le φ φ') φ := by
  refine Ct_def1 G H (n1 := "script") (fun pm cd doc v1 => by rfl) (hk := by rfl) (hco := by rfl) (hgen := by rfl) fun L cd hL env he => ?_
  have hsc : env.scope = fnS 9 := by rw [he]; rfl
  have hgl : env.globals = mainGlobals := by rw [he]; rfl
  have hbl : env.builtins = builtinsNs := by rw [he]; rfl
  have hce : env.cells = cellsFrom (L + 1) (fnS 9).names [] := by rw [he]; rfl
  have hbk : env.blockKind = .function := by rw [he]; rfl
  have c1 : Cel env "script" (L + 1) := cel_of hsc (by rw [hce]; rfl) (by decide +kernel)
  have n1 : Loc env "small" := by walk_at "loc"
  have n2 : Loc env "ways" := by walk_at "loc"
  have n3 : Loc env "x" := by walk_at "loc"
  have n4 : Loc env "a" := by walk_at "loc"
  have n5 : Loc env "b" := by walk_at "loc"
  have n6 : Loc env "length" := by walk_at "loc"
  have g1 : Glb env "range" := by walk_at "glb"
  have g2 : Glb env "list" := by walk_at "glb"
  have g3 : Glb env "len" := by walk_at "glb"
  have g4 : Glb env "sum" := by walk_at "glb"
  have g5 : Glb env "min" := by walk_at "glb"
  have g6 : Glb env "abs" := by walk_at "glb"
  have g7 : Glb env "_law_SEEDS" := by walk_at "glb"
  have hi : interactive env = false := by rw [he]; rfl
  have e1 := fr1 hL
  show Bind _ _ _ _ _ _ (upd φ (L + 1) (.cell none))
  refine Bind_cell c1 (by walk_at "lkp") (Bind_nil ?_)
  show Ss _ _ _ (fnB 9) _ _ _
  rw [upd_upd]
  clear he
  conv in (fnB 9) => whnf
  have le0 : Le φ (upd φ (L + 1) (.cell (some (.ref ls)))) := by walk_at "le"
  have hw0 : upd φ (L + 1) (.cell (some (.ref ls))) (L + 1) = some (.cell (some (.ref ls))) := by walk_at "lkp"
  change Ss _ _ _ _ _ _ (upd φ (L + 1) (.cell (some (.ref ls))))
  generalize upd φ (L + 1) (.cell (some (.ref ls))) = φ0 at le0 hw0 ⊢
  walk_at "go"
  refine V_sumB HB fun i0 => ?_
  walk_at "go"
  refine Op_mod (by decide) ?_
  walk_at "go"
  generalize hsb : (i0.fmod 2 == 1) = sb
  walk_at "lc"
  walk_at "go"
  refine V_range (n := 7) fun ra hra => ?_
  have leA : Le φ0 (upd φ0 ra (.rng 0 ((7 : Nat) : Int) 1)) := (Le.refl _).alloc hra
  have hr1 : upd φ0 ra (.rng 0 ((7 : Nat) : Int) 1) ra = some (.rng 0 ((7 : Nat) : Int) 1) := upd_same ..
  generalize upd φ0 ra (.rng 0 ((7 : Nat) : Int) 1) = φ1 at leA hr1 ⊢
  walk_at "go"
  refine ⟨.range 0 1, List.range 7, fun (i : Nat) => .int (i : Int) 0, from_range hr1 (by decide), by decide, fun Cl ce hfr K => ?_⟩
  have k1 : Loc ce "a" := loc_of K.s (by decide +kernel)
  clear K
  refine ⟨fun done ys mc φ' => ∃ r, ys = done.map (fun i => .ref (r i)) ∧ Bld (fun φ i a => φ a = some (.lst (row ((fun _ _ => none : Gr) i)))) φ1 φ' done r, ⟨fun done ys mc φ' hJ => ok_range, fun done x rest ys mc φ' hS hJ => ?_⟩, ⟨fun _ => 0, rfl, .start (.refl _)⟩, fun ys mc φ' wa hJ hwa => ?_⟩
  · obtain ⟨r, rfl, B⟩ := hJ
    walk_at "go"
    refine ⟨by simp, fun a1 h1 => ?_⟩
    walk_at "go"
    refine Op_none7 (upd_same ..) fun a ha => ?_
    obtain ⟨B', e⟩ := B.step (P := fun φ i a => φ a = some (.lst (row ((fun _ _ => none : Gr) i)))) (φ' := upd (upd φ' a1 (.lst [.none])) a (.lst (row fun _ => none))) (fun _ _ _ _ l h => l _ _ h) (mid_not range7_nodup hS) (((Le.refl _).alloc h1).alloc ha) (((Le.refl _).alloc h1).none ha) (upd_same ..) (upd_same ..)
    exact ⟨_, e.symm, B'⟩
  obtain ⟨r, rfl, B⟩ := hJ
  have T0 := B.tab hwa
  have hnew1 : ∀ i, i < 7 → φ1 (r i) = none := fun i hi => B.new i (range7.mpr hi)
  have inj : ∀ i j, i < 7 → j < 7 → r i = r j → i = j := fun i j hi hj => B.inj i (range7.mpr hi) j (range7.mpr hj)
  have hnew : ∀ i, i < 7 → φ (r i) = none := fun i hi => (le0.trans leA).none (hnew1 i hi)
  have le2 : Le φ (upd φ' wa (.lst (refs r))) := (le0.trans leA).trans (B.le.alloc hwa)
  have hw2 : upd φ' wa (.lst (refs r)) (L + 1) = some (.cell (some (.ref ls))) := upd_old hwa (B.le _ _ (leA _ _ hw0))
  change seqK _ _ _ _ _ _ _ (upd φ' wa (.lst (refs r)))
  generalize upd φ' wa (.lst (refs r)) = φ2 at T0 le2 hw2 ⊢
  clear B hfr hwa
  walk_at "go"
  refine S_ForG (α := Int) ?_ (by intro _; with_unfolding_all rfl)
  walk_at "go"
  walk_at "lc"
  walk_at "go"
  refine V_lenB HB fun n hn63 => ?_
  walk_at "go"
  refine CallV_min2 ?_
  rw [show (if (n : Int) < 12 then (n : Int) else 12) = ((min n 12 : Nat) : Int) by omega]
  walk_at "go"
  refine V_range fun rb hrb => ?_
  have leB : Le φ2 (upd φ2 rb (.rng 0 ((min n 12 : Nat) : Int) 1)) := (Le.refl _).alloc hrb
  have hr2 : upd φ2 rb (.rng 0 ((min n 12 : Nat) : Int) 1) rb = some (.rng 0 ((min n 12 : Nat) : Int) 1) := upd_same ..
  generalize upd φ2 rb (.rng 0 ((min n 12 : Nat) : Int) 1) = φ3 at leB hr2 ⊢
  have hw3 := leB _ _ hw2
  walk_at "go"
  have hm12 : min n 12 ≤ 12 := Nat.min_le_right ..
  refine ⟨.range 0 1, List.range (min n 12), fun (i : Nat) => .int (i : Int) 0, from_range hr2 (by omega), by rw [List.length_range]; omega, fun Cl ce hfr K => ?_⟩
  have k1 : Loc ce "k" := loc_of K.s (by decide +kernel)
  have k2 : Cel ce "script" (L + 1) := cel_of K.s (by rw [K.c]; rfl) (by decide +kernel)
  have k3 : Glb ce "sum" := glb_of K.s K.g K.b (by decide +kernel)
  clear K
  refine ⟨fun done ys mc φ' => ys.length = done.length ∧ (∃ zs, ys = ivs zs) ∧ Le φ3 φ', ⟨fun done ys mc φ' hJ => ok_range, fun done x rest ys mc φ' hS hJ => ?_⟩, ⟨rfl, ⟨[], rfl⟩, .refl _⟩, fun ys mc φ' D1 hJ hD1 => ?_⟩
  · obtain ⟨hyl, ⟨zs, rfl⟩, leC⟩ := hJ
    have hwC := leC _ _ hw3
    refine G_local k1 ?_
    refine Tst_nil ?_
    refine if_tt ?_
    refine C_blt k3 b4 ?_ (by intro _; with_unfolding_all exact ⟨_, _, rfl⟩) (by intro _; with_unfolding_all rfl)
    refine Es_cons ?_ (by with_unfolding_all rfl)
    refine E_sliceB (n := 12) HB ?_ ?ht (by decide)
    case ht => intro _ _; with_unfolding_all rfl
    walk_at "go"
    refine ⟨rfl, ?_⟩
    walk_at "go"
    refine ⟨⟨_, rfl⟩, fun D xs hD => ?_⟩
    walk_at "go"
    refine CallV_sum (upd_same ..) (fun v hv => ?_) fun i => ?_
    · obtain ⟨i, _, e⟩ := List.mem_map.mp hv
      exact ⟨i, e.symm⟩
    · exact ⟨by rw [List.length_append, List.length_append, hyl]; rfl, ⟨zs ++ [i], by unfold ivs; rw [List.map_append]; rfl⟩, leC.alloc hD⟩
  obtain ⟨hyl, ⟨zs, rfl⟩, leC⟩ := hJ
  clear hfr k1 k2 k3
  have hzl : zs.length ≤ 12 := by
    rw [List.length_map, List.length_range] at hyl
    omega
  have hD3 : upd φ' D1 (.lst (ivs zs)) D1 = some (.lst (ivs zs)) := upd_same ..
  have leD : Le φ2 (upd φ' D1 (.lst (ivs zs))) := (leB.trans leC).alloc hD1
  generalize upd φ' D1 (.lst (ivs zs)) = φ4 at hD3 leD ⊢
  walk_at "go"
  refine E_global G hsa ?_ g7.g g7.f g7.k g7.d
  walk_at "go"
  refine V_listT HT fun D2 hD2 => ?_
  walk_at "go"
  have hsl := HT.n
  refine Op_list_add (upd_old hD2 hD3) (upd_same ..) (by rw [List.length_map, List.length_map]; omega) fun D3 hD4 => ?_
  have hD5 : upd (upd φ4 D2 (.lst (ivs sns))) D3 (.lst (ivs zs ++ ivs sns)) D3 = some (.lst (ivs (zs ++ sns))) := by rw [upd_same]; unfold ivs; rw [List.map_append]
  have leE : Le φ2 (upd (upd φ4 D2 (.lst (ivs sns))) D3 (.lst (ivs zs ++ ivs sns))) := (leD.alloc hD2).alloc hD4
  have nD3 : ∀ i, i < 7 → D3 ≠ r i := fun i hi e => by
    have h1 : upd φ4 D2 (.lst (ivs sns)) (r i) = some (.lst (row fun _ => none)) := (leD.alloc hD2) _ _ (T0.row i hi)
    rw [← e, hD4] at h1; cases h1
  generalize upd (upd φ4 D2 (.lst (ivs sns))) D3 (.lst (ivs zs ++ ivs sns)) = φ5 at hD5 leE ⊢
  have T5 := T0.le leE
  have le5 := le2.trans leE
  refine ⟨.list D3, zs ++ sns, fun i => .int i 0, fun done m φ' => m "ways" = some (.ref wa) ∧ m "small" = some (.bool sb) ∧ Le φ φ' ∧ LeB r φ5 φ' ∧ ∃ w, Tab φ' wa r w ∧ Good w, from_lst hD5, .inl (by intro _ _; with_unfolding_all rfl), fun done m φ' hI => ok_lst (hI.2.2.2.1.look hD5 nD3), ⟨by walk_at "lkm", by walk_at "lkm", le5, .refl _ _, _, T5, Good.none⟩, fun done x rest m φ' hS hI => ?_, fun m φ' hI => ?_⟩
  · obtain ⟨m1, m2, le6, lb, w, T6, gw⟩ := hI
    obtain ⟨a, ha, ha7⟩ := fmod_nat x 7 (by decide)
    obtain ⟨b, hb, hb7⟩ := fmod_nat (x.fdiv 7) 7 (by decide)
    have ha : x.fmod 7 = (a : Int) := ha
    have hb : (x.fdiv 7).fmod 7 = (b : Int) := hb
    walk_at "go"
    refine Op_mod (by decide) ?_
    rw [ha]
    walk_at "go"
    refine Op_floordiv (by decide) (PyProof.noPylong_of_log2 (by decide +kernel)) ?_
    walk_at "go"
    refine Op_mod (by decide) ?_
    rw [hb]
    walk_at "go"
    refine Op_floordiv (by decide) (PyProof.noPylong_of_log2 (by decide +kernel)) ?_
    walk_at "go"
    refine CallV_abs ?_
    obtain ⟨l1, hl1, hl1p⟩ : ∃ l1 : Int, (if x.fdiv 49 < 0 then -x.fdiv 49 else x.fdiv 49) = l1 ∧ 0 ≤ l1 := ⟨_, rfl, by split <;> omega⟩
    rw [hl1]
    walk_at "go"
    refine expK_same (v := .int (if sb = true then 1 + (1 + l1).fmod 5 else 1 + l1) 0) (fun hs => ?_) (fun hs => ?_) ?_
    · walk_at "go"
      refine Op_mod (by decide) ?_
      walk_at "go"
      exact ⟨by rw [hs]; rfl, rfl, rfl⟩
    · walk_at "go"
      exact ⟨by rw [hs]; rfl, rfl, rfl⟩
    have hlen : 0 < (if sb = true then 1 + (1 + l1).fmod 5 else 1 + l1) := by
      have := Int.fmod_nonneg_of_pos (1 + l1) (b := 5) (by decide)
      split <;> omega
    generalize (if sb = true then 1 + (1 + l1).fmod 5 else 1 + l1) = len at hlen ⊢
    have hna := hnew a ha7
    have hnb := hnew b hb7
    walk_at "go"
    refine if_b (fun hab => ?_) fun hab => ?_
    · have hab' : a ≠ b := by simpa using hab
      have T7 := T6.set inj ha7 b (some len)
      have lb7 := lb.upd (o := .lst (row (bset (w a) b (some len)))) ha7
      have le7 : Le φ (upd φ' (r a) (.lst (row (bset (w a) b (some len))))) := le6.set hna
      have T8 := T7.set inj hb7 a (some len)
      have gw8 := gw.set2 hab' hlen
      walk_at "go"
      refine if_nil (fun hn => ?_) fun z hz => ?_
      · walk_at "go"
        exact ⟨by walk_at "lkm", by walk_at "lkm", le7.set hnb, lb7.upd hb7, _, T8, gw8⟩
      · walk_at "go"
        refine if_dec (fun hlt => ?_) fun hlt => ?_
        · walk_at "go"
          exact ⟨by walk_at "lkm", by walk_at "lkm", le7.set hnb, lb7.upd hb7, _, T8, gw8⟩
        · walk_at "go"
          exact ⟨by walk_at "lkm", by walk_at "lkm", le6, lb, w, T6, gw⟩
    · walk_at "go"
      exact ⟨by walk_at "lkm", by walk_at "lkm", le6, lb, w, T6, gw⟩
  · obtain ⟨m1, m2, le6, lb, w, T6, gw⟩ := hI
    walk_at "go"
    exact ⟨wa, r, w, rfl, T6, inj, hnew, gw, le6⟩
end

structure AllFns (C : Cx) where
  lf : LawFns C
  a9 : Addr
  ways : FnOk C "_law_ways" a9 (fnP 9) (fnB 9) (fnS 9)
  a15 : Addr
  stages : FnOk C "_law_stages" a15 (fnP 15) (fnB 15) (fnS 15)
  a16 : Addr
  meet : FnOk C "_law_meet" a16 (fnP 16) (fnB 16) (fnS 16)
  sum : Blt C "sum" (.builtin "sum")
  abs : Blt C "abs" (.builtin "abs")
section
variable {C : Cx} {φ : Phi}
theorem law_body (AF : AllFns C) {env : Env} {L : Addr} (hsc : env.scope = fnS 17) (hgl : env.globals = mainGlobals) (hbl : env.builtins = builtinsNs) (hce : env.cells = cellsFrom (L + 1) (fnS 17).names []) (hbk : env.blockKind = .function) (hi : interactive env = false)
    {ls sa : Addr} {vs : List Value} {ns sns : List Int} (HB : BL C ls vs ns) (HT : BT C sa sns) (hsa : C.mg "_law_SEEDS" = some (.ref sa)) {m : Frm} (hm : m "script" = some (.ref ls))
    (k1 : φ (L + 1) = some (.cell none)) (k2 : φ (L + 1 + 1) = some (.cell none)) (k3 : φ (L + 1 + 1 + 1) = some (.cell none)) (k4 : φ (L + 1 + 1 + 1 + 1) = some (.cell none)) :
    Ss C 7 env (fnB 17) (fun fl _ _ => fl = .ret (.bool true)) m φ := by
  have LF := AF.lf
  have G := AF.lf.hf.g
  have HF := AF.lf.hf
  have H9 := AF.ways
  have H10 := AF.lf.table
  have H11 := AF.lf.search
  have H15 := AF.stages
  have H16 := AF.meet
  have b1 := AF.lf.list
  have b2 := AF.lf.min
  have b3 := AF.lf.hf.range
  have c1 : Cel env "places" (L + 1) := cel_of hsc (by rw [hce]; rfl) (by decide +kernel)
  have c2 : Cel env "first" (L + 1 + 1) := cel_of hsc (by rw [hce]; rfl) (by decide +kernel)
  have c3 : Cel env "upward" (L + 1 + 1 + 1) := cel_of hsc (by rw [hce]; rfl) (by decide +kernel)
  have c4 : Cel env "found" (L + 1 + 1 + 1 + 1) := cel_of hsc (by rw [hce]; rfl) (by decide +kernel)
  have n1 : Loc env "script" := by walk_at "loc"
  have n2 : Loc env "ways" := by walk_at "loc"
  have g1 : Glb env "_law_ways" := by walk_at "glb"
  have g2 : Glb env "_law_table" := by walk_at "glb"
  have g3 : Glb env "_law_stages" := by walk_at "glb"
  have g6 : Glb env "list" := by walk_at "glb"
  have g7 : Glb env "range" := by walk_at "glb"
  have d12 : L + 1 ≠ L + 1 + 1 := Nat.ne_of_lt (by exact Nat.lt_succ_self _)
  have d23 : L + 1 + 1 ≠ L + 1 + 1 + 1 := Nat.ne_of_lt (by exact Nat.lt_succ_self _)
  have d34 : L + 1 + 1 + 1 ≠ L + 1 + 1 + 1 + 1 := Nat.ne_of_lt (by exact Nat.lt_succ_self _)
  have d13 : L + 1 ≠ L + 1 + 1 + 1 := Nat.ne_of_lt (Nat.lt_succ_of_lt (Nat.lt_succ_self _))
  have d24 : L + 1 + 1 ≠ L + 1 + 1 + 1 + 1 := Nat.ne_of_lt (Nat.lt_succ_of_lt (Nat.lt_succ_self _))
  have d14 : L + 1 ≠ L + 1 + 1 + 1 + 1 := Nat.ne_of_lt (Nat.lt_succ_of_lt (Nat.lt_succ_of_lt (Nat.lt_succ_self _)))
  conv in (fnB 17) => whnf
  walk_at "go"
  refine V_fn (ways_ok G H9 b3 b1 HF.len AF.sum b2 AF.abs HB HT hsa) (by omega) fun u φ1 hu => ?_
  obtain ⟨wa, r, w, rfl, T1, inj, _, gw, le1⟩ := hu
  replace k1 := le1 _ _ k1
  replace k2 := le1 _ _ k2
  replace k3 := le1 _ _ k3
  replace k4 := le1 _ _ k4
  walk_at "go"
  -- places
  refine A_cell c1 ?_ (by with_unfolding_all rfl)
  walk_at "go"
  refine V_range (n := 7) fun ra hra => ?_
  walk_at "go"
  refine CallV_listRange (n := 7) (upd_same ..) (by decide) fun pa hpa => ⟨_, upd_old hpa (upd_old hra k1), ?_⟩
  have le3 : Le φ1 (upd (upd φ1 ra (.rng 0 ((7 : Nat) : Int) 1)) pa (.lst (nats (List.range 7)))) := ((Le.refl _).alloc hra).alloc hpa
  have npr : ∀ i, i < 7 → pa ≠ r i := fun i hi => Ne.symm (ne_of_fresh hpa (upd_old hra (T1.row i hi)))
  have hp3 : upd (upd φ1 ra (.rng 0 ((7 : Nat) : Int) 1)) pa (.lst (nats (List.range 7))) pa = some (.lst (nats (List.range 7))) := upd_same ..
  generalize upd (upd φ1 ra (.rng 0 ((7 : Nat) : Int) 1)) pa (.lst (nats (List.range 7))) = φ3 at le3 hp3 ⊢
  have T4 := (T1.le le3).updC (x := .cell (some (.ref pa))) (le3 _ _ k1)
  have hp4 := lst_updC (x := .cell (some (.ref pa))) hp3 (le3 _ _ k1)
  have k14 : upd φ3 (L + 1) (.cell (some (.ref pa))) (L + 1) = some (.cell (some (.ref pa))) := upd_same ..
  have k24 : upd φ3 (L + 1) (.cell (some (.ref pa))) (L + 1 + 1) = _ := upd_ne (Ne.symm d12) (le3 _ _ k2)
  have k34 : upd φ3 (L + 1) (.cell (some (.ref pa))) (L + 1 + 1 + 1) = _ := upd_ne (Ne.symm d13) (le3 _ _ k3)
  have k44 : upd φ3 (L + 1) (.cell (some (.ref pa))) (L + 1 + 1 + 1 + 1) = _ := upd_ne (Ne.symm d14) (le3 _ _ k4)
  generalize upd φ3 (L + 1) (.cell (some (.ref pa))) = φ4 at T4 hp4 k14 k24 k34 k44 ⊢
  clear k1 k2 k3 k4 hpa hra le3 hp3 T1 le1
  walk_at "go"
  -- first
  refine A_cell c2 ?_ (by with_unfolding_all rfl)
  walk_at "go"
  refine V_fn (table_ok G H10 b1 T4 hp4 (fun x hx => range7.mp hx) gw) (by omega) fun u φ5 hu => ?_
  obtain ⟨fa, rf, fi, rfl, Tf5, hnewf, _, le5, hdist⟩ := hu
  have hfi : ∀ a, a < 7 → ∀ b, b < 7 → IsDist (EdW w (List.range 7)) a b (fi a b) := fun a ha b hb => hdist a (range7.mpr ha) b (range7.mpr hb)
  have hrr : ∀ i, i < 7 → ∀ j, j < 7 → rf i ≠ r j := fun i hi j hj => Ne.symm (ne_of_fresh (hnewf i hi) (T4.row j hj))
  have k25 := le5 _ _ k24
  refine ⟨_, k25, ?_⟩
  have T6 := (T4.le le5).updC (x := .cell (some (.ref fa))) k25
  have Tf6 := Tf5.updC (x := .cell (some (.ref fa))) k25
  have hp6 := lst_updC (x := .cell (some (.ref fa))) (le5 _ _ hp4) k25
  have k16 : upd φ5 (L + 1 + 1) (.cell (some (.ref fa))) (L + 1) = _ := upd_ne d12 (le5 _ _ k14)
  have k26 : upd φ5 (L + 1 + 1) (.cell (some (.ref fa))) (L + 1 + 1) = some (.cell (some (.ref fa))) := upd_same ..
  have k36 : upd φ5 (L + 1 + 1) (.cell (some (.ref fa))) (L + 1 + 1 + 1) = _ := upd_ne (Ne.symm d23) (le5 _ _ k34)
  have k46 : upd φ5 (L + 1 + 1) (.cell (some (.ref fa))) (L + 1 + 1 + 1 + 1) = _ := upd_ne (Ne.symm d24) (le5 _ _ k44)
  generalize upd φ5 (L + 1 + 1) (.cell (some (.ref fa))) = φ6 at T6 Tf6 hp6 k16 k26 k36 k46 ⊢
  clear k14 k24 k34 k44 k25 le5 hp4 T4 Tf5 hnewf hdist
  walk_at "go"
  -- upward
  refine A_cell c3 ?_ (by with_unfolding_all rfl)
  walk_at "go"
  refine V_fn (stages_ok LF H15 T6 inj Tf6 hrr gw hfi) (by omega) fun u φ7 hu => ?_
  obtain ⟨ua, ru, up, w', rfl, A7, hCH, hup, lb⟩ := hu
  have cr : ∀ {c v}, φ6 c = some (.cell v) → ∀ i, i < 7 → c ≠ r i := fun h i hi => ne_cl h (T6.row i hi)
  have hfr : ∀ i, i < 7 → fa ≠ r i := fun i hi e => by
    have h1 := Tf6.own
    rw [e, T6.row i hi] at h1
    have h2 : row (w i) = refs rf := AO.lst.inj (Option.some.inj h1)
    have h3 : at_ (row (w i)) 0 = at_ (refs rf) 0 := by rw [h2]
    rw [at_row (by decide), at_refs (by decide)] at h3
    cases e : w i 0 <;> rw [e] at h3 <;> cases h3
  have k37 := lb.look k36 (cr k36)
  refine ⟨_, k37, ?_⟩
  have A8 := A7.updC (x := .cell (some (.ref ua))) k37
  have Tf7 : Tab φ7 fa rf fi := ⟨lb.look Tf6.own hfr, fun i hi => lb.look (Tf6.row i hi) fun j hj => hrr i hi j hj⟩
  have Tf8 := Tf7.updC (x := .cell (some (.ref ua))) k37
  have hp8 := lst_updC (x := .cell (some (.ref ua))) (lb.look hp6 npr) k37
  have k18 : upd φ7 (L + 1 + 1 + 1) (.cell (some (.ref ua))) (L + 1) = _ := upd_ne d13 (lb.look k16 (cr k16))
  have k28 : upd φ7 (L + 1 + 1 + 1) (.cell (some (.ref ua))) (L + 1 + 1) = _ := upd_ne d23 (lb.look k26 (cr k26))
  have k38 : upd φ7 (L + 1 + 1 + 1) (.cell (some (.ref ua))) (L + 1 + 1 + 1) = some (.cell (some (.ref ua))) := upd_same ..
  have k48 : upd φ7 (L + 1 + 1 + 1) (.cell (some (.ref ua))) (L + 1 + 1 + 1 + 1) = _ := upd_ne (Ne.symm d34) (lb.look k46 (cr k46))
  generalize upd φ7 (L + 1 + 1 + 1) (.cell (some (.ref ua))) = φ8 at A8 Tf8 hp8 k18 k28 k38 k48 ⊢
  clear k16 k26 k36 k46 k37 cr lb hp6 T6 Tf6 Tf7 A7
  walk_at "go"
  -- found
  refine A_cell c4 ?_ (swap_false c4)
  walk_at "lc"
  walk_at "go"
  have hadj : ∀ u, u < 7 → ∀ x l, (x, l) ∈ up u → x < 7 ∧ 0 < l := fun u hu x l h => by
    have := hCH.upE u x l ⟨hu, h⟩
    exact ⟨this.2.2, this.2.1⟩
  refine ⟨.list pa, List.range 7, fun (x : Nat) => .int (x : Int) 0, from_nats hp8, by decide, fun Cl ce hfr K => ?_⟩
  have l1 : Loc ce "v" := loc_of K.s (by decide +kernel)
  have l2 : Cel ce "upward" (L + 1 + 1 + 1) := cel_of K.s (by rw [K.c]; rfl) (by decide +kernel)
  have l3 : Glb ce "_law_search" := glb_of K.s K.g K.b (by decide +kernel)
  clear K
  refine ⟨fun done ys mc φ' => ∃ ro, ys = done.map (fun i => .ref (ro i)) ∧ Bld (fun φ i a => ∃ best, φ a = some (.lst (row best)) ∧ ∀ x, IsDist (AdjE up) i x (best x)) φ8 φ' done ro, ⟨fun done ys mc φ' hJ => ?_, fun done x rest ys mc φ' hS hJ => ?_⟩, ⟨r, rfl, .start (.refl _)⟩, fun ys mc φ' D hJ hD => ?_⟩
  · obtain ⟨_, _, B⟩ := hJ
    exact ok_nats (B.le _ _ hp8)
  · obtain ⟨ro, rfl, B⟩ := hJ
    have hx : x < 7 := range7.mp (mid_mem hS)
    have k39 := B.le _ _ k38
    walk_at "go"
    refine V_fn (search_ok HF H11 b2 (A8.le B.le) hx hup hadj) (by omega) fun u φ9 hu => ?_
    obtain ⟨ba, best, rfl, hban, hba, leb, hd⟩ := hu
    obtain ⟨B', e⟩ := B.step (P := fun φ i a => ∃ best, φ a = some (.lst (row best)) ∧ ∀ x, IsDist (AdjE up) i x (best x)) (φ' := φ9) (fun _ _ _ _ l ⟨b, h1, h2⟩ => ⟨b, l _ _ h1, h2⟩) (mid_not range7_nodup hS) leb hban ⟨best, hba, hd⟩ hba
    exact ⟨_, e.symm, B'⟩
  obtain ⟨ro, rfl, B⟩ := hJ
  have leD : Le φ8 (upd φ' D (.lst (refs ro))) := B.le.alloc hD
  have hD9 : upd φ' D (.lst (refs ro)) D = some (.lst (refs ro)) := upd_same ..
  have hb9 : ∀ i, i < 7 → ∃ best, upd φ' D (.lst (refs ro)) (ro i) = some (.lst (row best)) ∧ ∀ x, IsDist (AdjE up) i x (best x) := fun i hi => by
    obtain ⟨best, h1, h2⟩ := B.has i (range7.mpr hi)
    exact ⟨best, upd_old hD h1, h2⟩
  change ∃ v₀, upd φ' D (.lst (refs ro)) _ = some (.cell v₀) ∧ seqK _ _ _ _ _ _ _ (upd (upd φ' D (.lst (refs ro))) _ _)
  generalize upd φ' D (.lst (refs ro)) = φ9 at leD hD9 hb9 ⊢
  have k49 := leD _ _ k48
  refine ⟨_, k49, ?_⟩
  have Tf10 := (Tf8.le leD).updC (x := .cell (some (.ref D))) k49
  have hp10 := lst_updC (x := .cell (some (.ref D))) (leD _ _ hp8) k49
  have hD10 := lst_updC (x := .cell (some (.ref D))) hD9 k49
  have hb10 : ∀ i, i < 7 → ∃ best, upd φ9 (L + 1 + 1 + 1 + 1) (.cell (some (.ref D))) (ro i) = some (.lst (row best)) ∧ ∀ x, IsDist (AdjE up) i x (best x) := fun i hi => by
    obtain ⟨best, h1, h2⟩ := hb9 i hi
    exact ⟨best, lst_updC h1 k49, h2⟩
  have k1 : upd φ9 (L + 1 + 1 + 1 + 1) (.cell (some (.ref D))) (L + 1) = _ := upd_ne d14 (leD _ _ k18)
  have k2 : upd φ9 (L + 1 + 1 + 1 + 1) (.cell (some (.ref D))) (L + 1 + 1) = _ := upd_ne d24 (leD _ _ k28)
  have k4 : upd φ9 (L + 1 + 1 + 1 + 1) (.cell (some (.ref D))) (L + 1 + 1 + 1 + 1) = some (.cell (some (.ref D))) := upd_same ..
  generalize upd φ9 (L + 1 + 1 + 1 + 1) (.cell (some (.ref D))) = φ10 at Tf10 hp10 hD10 hb10 k1 k2 k4 ⊢
  clear k18 k28 k38 k48 k49 leD hD9 hb9 B hfr l1 l2 l3
  walk_at "go"
  refine Op_in_none hD10 (fun v hv => ?_) ?_
  · obtain ⟨i, hi, rfl⟩ := List.mem_map.mp hv
    obtain ⟨best, h1, _⟩ := hb10 i (range7.mp hi)
    exact ⟨_, _, rfl, h1⟩
  walk_at "go"
  refine E_LC2 (α := Nat) hce hsc hgl hbl ?_ (by rfl) (by rfl) (by decide +kernel) (by intro _ _; with_unfolding_all rfl) (by intro _ _; with_unfolding_all rfl) (by intro _; with_unfolding_all rfl) (by intro _ _; with_unfolding_all rfl)
  walk_at "go"
  refine ⟨.list pa, List.range 7, fun (x : Nat) => .int (x : Int) 0, from_nats hp10, by decide, fun Cl ce hfr K => ?_⟩
  have l1 : Loc ce "a" := loc_of K.s (by decide +kernel)
  have l2 : Loc ce "b" := loc_of K.s (by decide +kernel)
  have l3 : Cel ce "places" (L + 1) := cel_of K.s (by rw [K.c]; rfl) (by decide +kernel)
  have l4 : Cel ce "first" (L + 1 + 1) := cel_of K.s (by rw [K.c]; rfl) (by decide +kernel)
  have l5 : Cel ce "found" (L + 1 + 1 + 1 + 1) := cel_of K.s (by rw [K.c]; rfl) (by decide +kernel)
  have l6 : Glb ce "_law_meet" := glb_of K.s K.g K.b (by decide +kernel)
  clear K
  refine ⟨fun done ys mc φ' => (∀ v ∈ ys, v = .bool true) ∧ ys.length ≤ 7 * done.length ∧ φ' = φ10, ⟨fun done ys mc φ' hJ => ?_, fun done x rest ys mc φ' hS hJ => ?_⟩, ⟨fun _ h => (by cases h), by simp, rfl⟩, fun ys mc φ' D2 hJ hD2 => ?_⟩
  · obtain ⟨_, _, rfl⟩ := hJ
    exact ok_nats hp10
  · obtain ⟨hys, hyl, rfl⟩ := hJ
    have hx : x < 7 := range7.mp (mid_mem hS)
    have hdl : done.length + 1 ≤ 7 := by
      have h2 : (List.range 7).length = done.length + (rest.length + 1) := by rw [hS, List.length_append]; rfl
      rw [List.length_range] at h2
      omega
    walk_at "go"
    refine ⟨.list pa, List.range 7, fun (x : Nat) => .int (x : Int) 0, fun done2 ys mc φ'' => mc "a" = some (.int (x : Int) 0) ∧ (∀ v ∈ ys, v = .bool true) ∧ ys.length ≤ 7 * done.length + done2.length ∧ done2.length ≤ 7 ∧ φ'' = φ', from_nats hp10, ⟨fun done ys mc φ'' hJ => ?_, fun done2 ys mc φ'' hJ => ?_, fun done2 y rest2 ys mc φ'' hS2 hJ => ?_⟩, ⟨by walk_at "lkm", hys, by simpa using hyl, by simp, rfl⟩, fun ys mc φ'' hJ => ?_⟩
    · obtain ⟨_, _, _, _, rfl⟩ := hJ
      exact ok_nats hp10
    · obtain ⟨_, _, h1, h2, _⟩ := hJ
      omega
    · obtain ⟨ma, hys, hyl, _, rfl⟩ := hJ
      have hy : y < 7 := range7.mp (mid_mem hS2)
      have hdl2 : done2.length + 1 ≤ 7 := by
        have h2 : (List.range 7).length = done2.length + (rest2.length + 1) := by rw [hS2, List.length_append]; rfl
        rw [List.length_range] at h2
        omega
      obtain ⟨bx, hbx, hdx⟩ := hb10 x hx
      obtain ⟨bz, hbz, hdz⟩ := hb10 y hy
      walk_at "go"
      refine V_fn (meet_ok G H16 b3 b2 hbx hbz (hCH.meet (gw.symE _) hx hy (hfi x hx y hy) hdx hdz)) (by omega) fun u φ11 hu => ?_
      obtain ⟨rfl, rfl⟩ := hu
      walk_at "go"
      refine ⟨by walk_at "lkm", fun v hv => ?_, by rw [List.length_append, List.length_append, List.length_singleton, List.length_singleton]; omega, by rw [List.length_append, List.length_singleton]; omega, rfl⟩
      rcases List.mem_append.mp hv with h | h
      · exact hys v h
      · rw [List.mem_singleton.mp h, beq_self_eq_true]
    · obtain ⟨_, hys, hyl, _, rfl⟩ := hJ
      refine ⟨hys, ?_, rfl⟩
      rw [List.length_append, List.length_singleton]
      rw [List.length_range] at hyl
      omega
  · obtain ⟨hys, _, rfl⟩ := hJ
    refine Op_in_false (upd_same ..) hys ?_
    walk_at "go"
    refine Op_not ?_
    walk_at "go"
    rfl
end

end Mine

namespace Mine
section
variable {C : Cx} {p : Program} {loose : List Str} {mean : ExcName → Option Value}
theorem fnOk_at (T : Top p loose mean C.mg C.mb C.s₀.heap) {x : Str} {a : Arguments} {b : List Stmt} {sc : Scope} {i : Nat} {pos : Pos} (h : (recsOf p)[i]? = some ⟨x, a, b, sc, pos⟩) : ∃ f, FnOk C x f a b sc := by
  obtain ⟨f, o, pm, cd, doc, h1, h2, h3, h4⟩ := T.fn _ (List.mem_of_getElem? h)
  exact ⟨f, h1, o, pm, cd, doc, h2, h3, h4⟩
theorem blt_at (T : Top p loose mean C.mg C.mb C.s₀.heap) {x : Str} {v : Value} (h : (decide (x ∉ startupNames) && decide (x ∉ loose) && decide (x ∉ (recsOf p).map (·.name)) && decide (x ∉ (litsOf p).map (·.1)) && decide (x ∉ (clssOf p loose).map (·.name)) && decide (x ≠ "__name__")) = true)
    (hb : bootBuiltins x = some v) : Blt C x v := by
  simp only [Bool.and_eq_true, decide_eq_true_eq] at h
  obtain ⟨⟨⟨⟨⟨h1, h2⟩, h3⟩, h4⟩, h5⟩, h6⟩ := h
  exact ⟨⟨T.g, T.b, T.nolimit⟩, T.free x h1 h2 h3 h4 h5, (T.builtins x h6).trans hb⟩
end
theorem bridge (C : Cx) {env : Env} {body : List Stmt} {m0 : Str → Option Value} {h₁ : Heap} {φ : Phi} {m : Frm} {Q : Flow → Shared → Prop} {E : Value → Shared → Prop} {A : Around} {s₁ : Shared}
    (hs : Ss C 7 env body (fun fl _ _ => fl = .ret (.bool true)) m φ) (ro : Room 7 A) (ns : h₁.Ns env.locals m0) (hm : ∀ x, (m0 x).map er = m x) (hφ : ∀ a o, φ a = some o → Sat h₁ a o ∧ C.s₀.heap.get? a = none)
    (hL : C.s₀.heap.get? env.locals = none) (hφL : φ env.locals = none) (stays : ∀ b o, C.s₀.heap.get? b = some o → h₁.get? b = some o) (hh : s₁.heap = h₁) (hg : s₁.gens = C.s₀.gens) (ho : s₁.os = C.s₀.os)
    (hq : ∀ s', (∀ b o, C.s₀.heap.get? b = some o → s'.heap.get? b = some o) → s'.gens = C.s₀.gens → s'.os = C.s₀.os → Q (.ret (.bool true)) s') :
    wpAny (model C.prog C.w) A (execs body env) Q E s₁ := by
  have F : FS C env.locals m φ (fun _ => none) s₁ := by
    refine ⟨hφL, fun a => .inr rfl, ⟨fun a x e => ?_, fun b o e => hh ▸ stays b o e, hg, ho⟩⟩
    rw [hh]
    unfold join at e
    by_cases hb : a = env.locals
    · subst hb
      rw [upd_same] at e
      cases e
      exact ⟨⟨m0, ns, hm⟩, hL⟩
    · rw [show upd φ env.locals (.ns m) a = φ a from if_neg hb] at e
      cases hφa : φ a with
      | none => rw [hφa] at e; cases e
      | some y =>
        rw [hφa] at e
        have e : y = x := Option.some.inj e
        subst e
        exact hφ a _ hφa
  refine B.then hs ro F fun f m' φ' s' F' q => ?_
  cases f with
  | next => cases q
  | brk => cases q
  | cont => cases q
  | ret v =>
    have q : Flow.ret (er v) = .ret (.bool true) := q
    have : v = .bool true := er_bool (Flow.ret.inj q)
    rw [this]
    exact hq s' F'.stays F'.st.gens F'.st.os
/-- four empty cells -/
def phi4 (a : Addr) : Phi := upd (upd (upd (upd (fun _ => none) a (.cell none)) (a + 1) (.cell none)) (a + 1 + 1) (.cell none)) (a + 1 + 1 + 1) (.cell none)
theorem phi4_some {a b : Addr} {o : AO} (h : phi4 a b = some o) : o = .cell none ∧ (b = a ∨ b = a + 1 ∨ b = a + 1 + 1 ∨ b = a + 1 + 1 + 1) := by
  unfold phi4 upd at h
  by_cases h4 : b = a + 1 + 1 + 1
  · rw [if_pos h4] at h; cases h; exact ⟨rfl, .inr (.inr (.inr h4))⟩
  · rw [if_neg h4] at h
    by_cases h3 : b = a + 1 + 1
    · rw [if_pos h3] at h; cases h; exact ⟨rfl, .inr (.inr (.inl h3))⟩
    · rw [if_neg h3] at h
      by_cases h2 : b = a + 1
      · rw [if_pos h2] at h; cases h; exact ⟨rfl, .inr (.inl h2)⟩
      · rw [if_neg h2] at h
        by_cases h1 : b = a
        · rw [if_pos h1] at h; cases h; exact ⟨rfl, .inl h1⟩
        · rw [if_neg h1] at h; cases h
theorem phi4_at (a : Addr) : phi4 a a = some (.cell none) ∧ phi4 a (a + 1) = some (.cell none) ∧ phi4 a (a + 1 + 1) = some (.cell none) ∧ phi4 a (a + 1 + 1 + 1) = some (.cell none) := by
  have h1 : (a : Nat) ≠ a + 1 := Nat.ne_of_lt (Nat.lt_succ_self _)
  have h2 : (a : Nat) ≠ a + 1 + 1 := Nat.ne_of_lt (Nat.lt_succ_of_lt (Nat.lt_succ_self _))
  have h3 : (a : Nat) ≠ a + 1 + 1 + 1 := Nat.ne_of_lt (Nat.lt_succ_of_lt (Nat.lt_succ_of_lt (Nat.lt_succ_self _)))
  have h4 : (a : Nat) + 1 ≠ a + 1 + 1 := Nat.ne_of_lt (Nat.lt_succ_self _)
  have h5 : (a : Nat) + 1 ≠ a + 1 + 1 + 1 := Nat.ne_of_lt (Nat.lt_succ_of_lt (Nat.lt_succ_self _))
  have h6 : (a : Nat) + 1 + 1 ≠ a + 1 + 1 + 1 := Nat.ne_of_lt (Nat.lt_succ_self _)
  exact ⟨upd_ne h3 (upd_ne h2 (upd_ne h1 (upd_same ..))), upd_ne h5 (upd_ne h4 (upd_same ..)), upd_ne h6 (upd_same ..), upd_same ..⟩
end Mine

open_top hd for PySem.Challenge.rw_dj5010_01

namespace Mine
theorem all_fns {C : Cx} {mean : ExcName → Option Value} (T : Top hd.view_39 (looseW hd.view_39 []) mean C.mg C.mb C.s₀.heap) : Nonempty (AllFns C) := by
  have G : Globs C := ⟨T.g, T.b, T.nolimit⟩
  obtain ⟨f1, h1⟩ := fnOk_at T (x := "heappush") (a := fnP 1) (b := fnB 1) (sc := fnS 1) (i := 0) (pos := _) (by with_unfolding_all rfl)
  obtain ⟨f2, h2⟩ := fnOk_at T (x := "heappop") (a := fnP 2) (b := fnB 2) (sc := fnS 2) (i := 1) (pos := _) (by with_unfolding_all rfl)
  obtain ⟨f3, h3⟩ := fnOk_at T (x := "heapreplace") (a := fnP 3) (b := fnB 3) (sc := fnS 3) (i := 2) (pos := _) (by with_unfolding_all rfl)
  obtain ⟨f4, h4⟩ := fnOk_at T (x := "heapify") (a := fnP 4) (b := fnB 4) (sc := fnS 4) (i := 3) (pos := _) (by with_unfolding_all rfl)
  obtain ⟨f5, h5⟩ := fnOk_at T (x := "_siftdown") (a := fnP 5) (b := fnB 5) (sc := fnS 5) (i := 4) (pos := _) (by with_unfolding_all rfl)
  obtain ⟨f6, h6⟩ := fnOk_at T (x := "_siftup") (a := fnP 6) (b := fnB 6) (sc := fnS 6) (i := 5) (pos := _) (by with_unfolding_all rfl)
  obtain ⟨f9, h9⟩ := fnOk_at T (x := "_law_ways") (a := fnP 9) (b := fnB 9) (sc := fnS 9) (i := 6) (pos := _) (by with_unfolding_all rfl)
  obtain ⟨f10, h10⟩ := fnOk_at T (x := "_law_table") (a := fnP 10) (b := fnB 10) (sc := fnS 10) (i := 7) (pos := _) (by with_unfolding_all rfl)
  obtain ⟨f11, h11⟩ := fnOk_at T (x := "_law_search") (a := fnP 11) (b := fnB 11) (sc := fnS 11) (i := 8) (pos := _) (by with_unfolding_all rfl)
  obtain ⟨f12, h12⟩ := fnOk_at T (x := "_law_leads") (a := fnP 12) (b := fnB 12) (sc := fnS 12) (i := 9) (pos := _) (by with_unfolding_all rfl)
  obtain ⟨f13, h13⟩ := fnOk_at T (x := "_law_go") (a := fnP 13) (b := fnB 13) (sc := fnS 13) (i := 10) (pos := _) (by with_unfolding_all rfl)
  obtain ⟨f14, h14⟩ := fnOk_at T (x := "_law_degree") (a := fnP 14) (b := fnB 14) (sc := fnS 14) (i := 11) (pos := _) (by with_unfolding_all rfl)
  obtain ⟨f15, h15⟩ := fnOk_at T (x := "_law_stages") (a := fnP 15) (b := fnB 15) (sc := fnS 15) (i := 12) (pos := _) (by with_unfolding_all rfl)
  obtain ⟨f16, h16⟩ := fnOk_at T (x := "_law_meet") (a := fnP 16) (b := fnB 16) (sc := fnS 16) (i := 13) (pos := _) (by with_unfolding_all rfl)
  have b_len : Blt C "len" (.builtin "len") := blt_at T (by decide +kernel) (by with_unfolding_all rfl)
  have b_range : Blt C "range" (.type "range") := blt_at T (by decide +kernel) (by with_unfolding_all rfl)
  have b_reversed : Blt C "reversed" (.type "reversed") := blt_at T (by decide +kernel) (by with_unfolding_all rfl)
  have b_list : Blt C "list" (.type "list") := blt_at T (by decide +kernel) (by with_unfolding_all rfl)
  have b_min : Blt C "min" (.builtin "min") := blt_at T (by decide +kernel) (by with_unfolding_all rfl)
  have b_sum : Blt C "sum" (.builtin "sum") := blt_at T (by decide +kernel) (by with_unfolding_all rfl)
  have b_abs : Blt C "abs" (.builtin "abs") := blt_at T (by decide +kernel) (by with_unfolding_all rfl)
  exact ⟨⟨⟨⟨G, f1, h1, f2, h2, f3, h3, f4, h4, f5, h5, f6, h6, b_len, b_range, b_reversed⟩, f10, h10, f11, h11, f12, h12, f13, h13, f14, h14, b_list, b_min⟩, f9, h9, f15, h15, f16, h16, b_sum, b_abs⟩⟩
theorem finish {w : World} {s₁ : Shared} {mg mb : Str → Option Value} {mean : ExcName → Option Value} {fa : Addr} {cd : Value} {h₁ : Heap} {tk : Nat} {dr} {ls : Addr} {vs : List Value} {ns : List Int} {m0 : Str → Option Value} {w3 w2 w1 w0 : Obj} {v3 v2 v1 v0 : Option Value} {Q : Flow → Shared → Prop} {E : Value → Shared → Prop}
    (T : Top hd.view_39 (looseW hd.view_39 []) mean mg mb s₁.heap) (B : PyProof.Rows.Tables hd.view_39 w mg s₁.heap) (F : Fr s₁.heap s₁.heap.objs.size h₁ m0) (hm0 : m0 "script" = some (.ref ls)) (hl : s₁.heap.IsList ls vs.toArray) (hI : IntsAre vs ns) (hn : ns.length ≤ 63)
    (N : News s₁.heap s₁.heap.objs.size h₁ [(s₁.heap.objs.size + 1 + 1 + 1 + 1, w3), (s₁.heap.objs.size + 1 + 1 + 1, w2), (s₁.heap.objs.size + 1 + 1, w1), (s₁.heap.objs.size + 1, w0)])
    (d3 : w3.data = .cell v3) (d2 : w2.data = .cell v2) (d1 : w1.data = .cell v1) (d0 : w0.data = .cell v0) (e3 : v3 = none) (e2 : v2 = none) (e1 : v1 = none) (e0 : v0 = none)
    (hq : ∀ s', (∀ b o, s₁.heap.get? b = some o → s'.heap.get? b = some o) → s'.gens = s₁.gens → s'.os = s₁.os → Q (.ret (.bool true)) s') :
    wpAny (model PySem.Challenge.pw_dj5010_01 w) (callerA.deeper (envOfC "law" (fnS 17) s₁.heap.objs.size fa cd)) (execs (fnB 17) (envOfC "law" (fnS 17) s₁.heap.objs.size fa cd)) Q E { heap := h₁, gens := s₁.gens, drawn := dr, toks := tk, os := s₁.os } := by
  subst e3; subst e2; subst e1; subst e0
  obtain ⟨AF⟩ := all_fns (C := ⟨PySem.Challenge.pw_dj5010_01, w, s₁, mg, mb⟩) T
  obtain ⟨sa, svs, hsa, hst, hsi⟩ := B.tupI "_law_SEEDS" [154, 113, 219, 88] (by with_unfolding_all rfl)
  have HB : BL ⟨PySem.Challenge.pw_dj5010_01, w, s₁, mg, mb⟩ ls vs ns := ⟨hl, hI, hn⟩
  have HT : BT ⟨PySem.Challenge.pw_dj5010_01, w, s₁, mg, mb⟩ sa [154, 113, 219, 88] := by
    obtain ⟨o, ho, hc, n, hd⟩ := hst
    exact ⟨⟨o, _, n, ho, hc, hd, ints_er hsi⟩, by decide⟩
  obtain ⟨p1, p2, p3, p4⟩ := phi4_at (s₁.heap.objs.size + 1)
  have nL : ∀ a o, phi4 (s₁.heap.objs.size + 1) a = some o → a ≠ s₁.heap.objs.size := fun a o h e => by
    obtain ⟨_, h⟩ := phi4_some h
    subst e
    rcases h with h | h | h | h
    · exact Nat.ne_of_lt (Nat.lt_succ_self _) h
    · exact Nat.ne_of_lt (Nat.lt_succ_of_lt (Nat.lt_succ_self _)) h
    · exact Nat.ne_of_lt (Nat.lt_succ_of_lt (Nat.lt_succ_of_lt (Nat.lt_succ_self _))) h
    · exact Nat.ne_of_lt (Nat.lt_succ_of_lt (Nat.lt_succ_of_lt (Nat.lt_succ_of_lt (Nat.lt_succ_self _)))) h
  have ro : Room 7 (callerA.deeper (envOfC "law" (fnS 17) s₁.heap.objs.size fa cd)) := ⟨rfl, (by show 1 + claimMargin + 1 + 7 ≤ 900; decide), (by show 4 + 3 + 10 * 7 ≤ 9000; decide)⟩
  refine bridge ⟨PySem.Challenge.pw_dj5010_01, w, s₁, mg, mb⟩ (m := fun x => (m0 x).map er) (law_body AF (L := s₁.heap.objs.size) (φ := phi4 (s₁.heap.objs.size + 1)) rfl rfl rfl rfl rfl rfl HB HT hsa (by show (m0 "script").map er = _; rw [hm0]; rfl) p1 p2 p3 p4)
    ro F.ns (fun _ => rfl) (fun a o h => ?_) (Heap.get?_none_of_le (Nat.le_refl _)) ?_ F.keep rfl rfl rfl hq
  · have hs := phi4_some h
    clear h
    obtain ⟨ho, h⟩ := hs
    subst ho
    have cell : ∀ {o : Obj}, (a, o) ∈ [(s₁.heap.objs.size + 1 + 1 + 1 + 1, w3), (s₁.heap.objs.size + 1 + 1 + 1, w2), (s₁.heap.objs.size + 1 + 1, w1), (s₁.heap.objs.size + 1, w0)] → o.data = .cell none → Sat h₁ a (.cell none) ∧ s₁.heap.get? a = none := fun hm hd =>
      ⟨⟨none, ⟨_, N.get hm, hd⟩, rfl⟩, N.fresh hm⟩
    rcases h with e | e | e | e <;> subst e
    · exact cell (.tail _ (.tail _ (.tail _ (.head _)))) d0
    · exact cell (.tail _ (.tail _ (.head _))) d1
    · exact cell (.tail _ (.head _)) d2
    · exact cell (.head _) d3
  · show phi4 _ s₁.heap.objs.size = none
    cases h : phi4 (s₁.heap.objs.size + 1) s₁.heap.objs.size with
    | none => rfl
    | some o => exact absurd rfl (nL _ _ h)
end Mine
theorem PySem.Challenge.cw_dj5010_01_holds : PySem.Challenge.rw_dj5010_01.Holds :=
  hd (by
  k_go0
  rename Top _ _ _ _ _ _ => T
  rename PyProof.Rows.Tables _ _ _ _ => B
  rename Fr _ _ _ _ => F
  rename News _ _ _ _ => N
  rename _ = #[] => hg
  refine Mine.finish T B F (by with_unfolding_all rfl) (by assumption) (by assumption) (by omega) N (by assumption) (by assumption) (by assumption) (by assumption) (by with_unfolding_all rfl) (by with_unfolding_all rfl) (by with_unfolding_all rfl) (by with_unfolding_all rfl) fun s' hk hgs hos => ?_
  exact ⟨.inl ⟨.bool true, .bool true, [], rfl, fun cls => (by with_unfolding_all rfl), .bool true, (by with_unfolding_all rfl), fun _ => ⟨.nil, fun a h => (by cases h)⟩⟩, hk, hos, hgs.trans hg⟩)
