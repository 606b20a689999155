import PyProof.Rows.All
import Wide.All
import OpenK.AllK
import Wide.FinOn
import PySem.Challenge.RW_op0009_01
set_option Elab.async false
set_option autoImplicit false
set_option linter.all false

section
namespace Mine
open PySem PySem.W PyProof.Rows PySem.Calls

/-! worlds: a heap, and the addresses whose lists are still being changed -/
def Kp (h h' : Heap) : Prop := ∀ b o, h.get? b = some o → h'.get? b = some o
theorem Kp.refl (h : Heap) : Kp h h := fun _ _ e => e
theorem Kp.trans {h h' h'' : Heap} (a : Kp h h') (b : Kp h' h'') : Kp h h'' := fun x o e => b x o (a x o e)
theorem Kp.none {h h' : Heap} (k : Kp h h') {a : Addr} (e : h'.get? a = none) : h.get? a = none := by
  cases q : h.get? a with
  | none => rfl
  | some o => rw [k a o q] at e; cases e
def Al (X : List Addr) (h : Heap) : Prop := ∀ a ∈ X, ∃ o, h.get? a = some o
theorem Al.up {X : List Addr} {h h' : Heap} (x : Al X h) (k : Kp h h') : Al X h' := fun a ha => let ⟨o, e⟩ := x a ha; ⟨o, k a o e⟩
theorem Al.nil {h : Heap} : Al [] h := fun _ ha => nomatch ha
theorem Al.cons {X : List Addr} {h : Heap} {a : Addr} {o : Obj} (x : Al X h) (e : h.get? a = some o) : Al (a :: X) h := fun b hb => by
  rcases List.mem_cons.mp hb with rfl | hb
  · exact ⟨o, e⟩
  · exact x b hb
theorem Al.not {X : List Addr} {h : Heap} {a : Addr} (x : Al X h) (e : h.get? a = none) : a ∉ X := fun hm => by
  obtain ⟨o, q⟩ := x a hm; rw [e] at q; cases q

structure Le (X : List Addr) (h : Heap) (Y : List Addr) (h' : Heap) : Prop where
  kp : Kp h h'
  new : ∀ a ∈ Y, a ∈ X ∨ h.get? a = none
theorem Le.refl (X : List Addr) (h : Heap) : Le X h X h := ⟨Kp.refl h, fun _ ha => .inl ha⟩
theorem Le.of_kp {X : List Addr} {h h' : Heap} (k : Kp h h') : Le X h X h' := ⟨k, fun _ ha => .inl ha⟩
theorem Le.trans {X Y Z : List Addr} {h h' h'' : Heap} (a : Le X h Y h') (b : Le Y h' Z h'') : Le X h Z h'' :=
  ⟨a.kp.trans b.kp, fun x hx => (b.new x hx).elim (a.new x) fun e => .inr (a.kp.none e)⟩
theorem Le.step {X Y : List Addr} {h h' h'' : Heap} (a : Le X h Y h') (k : Kp h' h'') : Le X h Y h'' := a.trans (.of_kp k)
theorem Le.add {X : List Addr} {h h' : Heap} {a : Addr} (k : Kp h h') (e : h.get? a = none) : Le X h (a :: X) h' :=
  ⟨k, fun b hb => by rcases List.mem_cons.mp hb with rfl | hb; exact .inr e; exact .inl hb⟩

def Fz (o : Obj) : Prop := (∃ xs n, o.data = .seq xs n) ∨ ∃ vs, o.data = .fields vs ∧ o.cls = .type "range"
structure Lw (X : List Addr) (h : Heap) (Y : List Addr) (h' : Heap) : Prop where
  keep : ∀ b o, b ∉ X → Fz o → h.get? b = some o → h'.get? b = some o
  new : ∀ a ∈ Y, a ∈ X ∨ h.get? a = none
theorem Le.lw {X Y : List Addr} {h h' : Heap} (a : Le X h Y h') : Lw X h Y h' := ⟨fun b o _ _ e => a.kp b o e, a.new⟩
theorem Lw.refl (X : List Addr) (h : Heap) : Lw X h X h := (Le.refl X h).lw
theorem Lw.sub {X Y : List Addr} {h : Heap} (s : ∀ a ∈ Y, a ∈ X) : Lw X h Y h := ⟨fun _ _ _ _ e => e, fun a ha => .inl (s a ha)⟩
/-- the same, and nothing dies: steps of statements -/
structure Lx (X : List Addr) (h : Heap) (Y : List Addr) (h' : Heap) : Prop extends Lw X h Y h' where
  live : ∀ b o, h.get? b = some o → ∃ o', h'.get? b = some o'
theorem Lx.lw {X Y : List Addr} {h h' : Heap} (a : Lx X h Y h') : Lw X h Y h' := a.toLw
theorem Le.lx {X Y : List Addr} {h h' : Heap} (a : Le X h Y h') : Lx X h Y h' := ⟨a.lw, fun b o e => ⟨o, a.kp b o e⟩⟩
theorem Lx.refl (X : List Addr) (h : Heap) : Lx X h X h := (Le.refl X h).lx
theorem Lx.trans {X Y Z : List Addr} {h h' h'' : Heap} (a : Lx X h Y h') (b : Lx Y h' Z h'') : Lx X h Z h'' := by
  refine ⟨⟨fun x o hx hs e => b.keep x o (fun hy => ?_) hs (a.keep x o hx hs e), fun x hx => ?_⟩, fun x o e => ?_⟩
  · rcases a.new x hy with h1 | h1
    · exact hx h1
    · rw [h1] at e; cases e
  · rcases b.new x hx with h1 | h1
    · exact a.new x h1
    · right
      cases q : h.get? x with
      | none => rfl
      | some o => obtain ⟨o', e'⟩ := a.live x o q; rw [h1] at e'; cases e'
  · obtain ⟨o', e'⟩ := a.live x o e; exact b.live x o' e'
theorem Lx.sub {X Y : List Addr} {h : Heap} (s : ∀ a ∈ Y, a ∈ X) : Lx X h Y h := ⟨.sub s, fun _ o e => ⟨o, e⟩⟩
theorem Lx.al {X Y : List Addr} {h h' : Heap} (a : Lx X h Y h') {Z : List Addr} (z : Al Z h) : Al Z h' := fun x hx => let ⟨o, e⟩ := z x hx; a.live x o e

/-! two lists, item by item -/
inductive All2 {α β : Type} (F : α → β → Prop) : List α → List β → Prop
  | nil : All2 F [] []
  | cons {a b l₁ l₂} : F a b → All2 F l₁ l₂ → All2 F (a :: l₁) (b :: l₂)
namespace All2
variable {α β : Type} {F G : α → β → Prop}
theorem length {l₁ : List α} {l₂ : List β} (h : All2 F l₁ l₂) : l₁.length = l₂.length := by
  induction h with
  | nil => rfl
  | cons _ _ ih => rw [List.length_cons, List.length_cons, ih]
theorem imp {l₁ : List α} {l₂ : List β} (h : All2 F l₁ l₂) (f : ∀ a b, a ∈ l₁ → b ∈ l₂ → F a b → G a b) : All2 G l₁ l₂ := by
  induction h with
  | nil => exact .nil
  | cons h1 _ ih => exact .cons (f _ _ (.head _) (.head _) h1) (ih fun a b ha hb => f a b (.tail _ ha) (.tail _ hb))
theorem append {a b : List α} {c d : List β} (h : All2 F a c) (k : All2 F b d) : All2 F (a ++ b) (c ++ d) := by
  induction h with
  | nil => exact k
  | cons h1 _ ih => exact .cons h1 ih
theorem one {a : α} {b : β} (h : F a b) : All2 F [a] [b] := .cons h .nil
theorem snoc {l₁ : List α} {l₂ : List β} {a : α} {b : β} (h : All2 F l₁ l₂) (k : F a b) : All2 F (l₁ ++ [a]) (l₂ ++ [b]) := h.append (.one k)
theorem get {l₁ : List α} {l₂ : List β} (h : All2 F l₁ l₂) {i : Nat} {a : α} (e : l₁[i]? = some a) : ∃ b, l₂[i]? = some b ∧ F a b := by
  induction h generalizing i with
  | nil => simp at e
  | cons h1 _ ih =>
    cases i with
    | zero => simp at e; subst e; exact ⟨_, rfl, h1⟩
    | succ i => simpa using ih (by simpa using e)
theorem get' {l₁ : List α} {l₂ : List β} (h : All2 F l₁ l₂) {i : Nat} {b : β} (e : l₂[i]? = some b) : ∃ a, l₁[i]? = some a ∧ F a b := by
  induction h generalizing i with
  | nil => simp at e
  | cons h1 _ ih =>
    cases i with
    | zero => simp at e; subst e; exact ⟨_, rfl, h1⟩
    | succ i => simpa using ih (by simpa using e)
theorem mem {l₁ : List α} {l₂ : List β} (h : All2 F l₁ l₂) {a : α} (e : a ∈ l₁) : ∃ b, b ∈ l₂ ∧ F a b := by
  obtain ⟨i, hi⟩ := List.getElem?_of_mem e
  obtain ⟨b, hb, f⟩ := h.get hi
  exact ⟨b, List.mem_of_getElem? hb, f⟩
theorem take {l₁ : List α} {l₂ : List β} (h : All2 F l₁ l₂) (n : Nat) : All2 F (l₁.take n) (l₂.take n) := by
  induction h generalizing n with
  | nil => simpa using All2.nil
  | cons h1 _ ih => cases n with
    | zero => exact .nil
    | succ n => exact .cons h1 (ih n)
theorem drop {l₁ : List α} {l₂ : List β} (h : All2 F l₁ l₂) (n : Nat) : All2 F (l₁.drop n) (l₂.drop n) := by
  induction h generalizing n with
  | nil => simpa using All2.nil
  | cons h1 h2 ih => cases n with
    | zero => exact .cons h1 h2
    | succ n => exact ih n
theorem unsnoc {l₁ : List α} {l₂ : List β} {a : α} (h : All2 F (l₁ ++ [a]) l₂) : ∃ ds d, l₂ = ds ++ [d] ∧ All2 F l₁ ds ∧ F a d := by
  induction l₁ generalizing l₂ with
  | nil => cases h with | cons h1 h2 => cases h2; exact ⟨[], _, rfl, .nil, h1⟩
  | cons x l ih => cases h with | cons h1 h2 =>
    obtain ⟨ds, d, rfl, h3, h4⟩ := ih h2
    exact ⟨_ :: ds, d, rfl, .cons h1 h3, h4⟩
end All2

/-! what a value stands for -/
abbrev Pr := List Addr → Heap → Value → Prop
structure GR (R : Pr) : Prop where
  up : ∀ {X h Y h' v}, Lw X h Y h' → R X h v → R Y h' v
def IntR (i : Int) : Pr := fun _ _ v => ∃ t, v = .int i t
def BoolR (b : Bool) : Pr := fun _ _ v => v = .bool b
def IsV (u : Value) : Pr := fun _ _ v => v = u
def TxR (o : Bool) (l : List Nat) : Pr := fun _ _ v => match o with
  | false => ∃ t, v = .str ⟨l.toArray⟩ t
  | true => ∃ b t, v = .bytes b t ∧ b.toList.map UInt8.toNat = l
def LsR {α : Type} (R : α → Pr) (ds : List α) : Pr := fun X h v => ∃ a vs, v = .ref a ∧ a ∉ X ∧ h.PlainList a vs.toArray ∧ All2 (fun u d => R d X h u) vs ds
def TpR {α β : Type} (R : α → Pr) (S : β → Pr) (p : α × β) : Pr := fun X h v => ∃ a u₁ u₂, v = .ref a ∧ a ∉ X ∧ IsTup h a #[u₁, u₂] ∧ R p.1 X h u₁ ∧ S p.2 X h u₂
theorem gr_int (i : Int) : GR (IntR i) := ⟨fun _ x => x⟩
theorem gr_bool (b : Bool) : GR (BoolR b) := ⟨fun _ x => x⟩
theorem gr_is (u : Value) : GR (IsV u) := ⟨fun _ x => x⟩
theorem gr_tx (o : Bool) (l : List Nat) : GR (TxR o l) := ⟨fun _ x => x⟩
theorem Lw.off {X Y : List Addr} {h h' : Heap} (l : Lw X h Y h') {a : Addr} {o : Obj} (e : h.get? a = some o) (n : a ∉ X) : a ∉ Y := fun hy => by
  rcases l.new a hy with h1 | h1
  · exact n h1
  · rw [h1] at e; cases e
theorem gr_ls {α : Type} {R : α → Pr} (g : ∀ d, GR (R d)) (ds : List α) : GR (LsR R ds) := ⟨fun {X h Y h' v} l x => by
  obtain ⟨a, vs, rfl, ha, ⟨n, ho⟩, hx⟩ := x
  exact ⟨a, vs, rfl, l.off ho ha, ⟨n, l.keep a _ ha (.inl ⟨_, _, rfl⟩) ho⟩, hx.imp fun _ d _ _ f => (g d).up l f⟩⟩
theorem gr_tp {α β : Type} {R : α → Pr} {S : β → Pr} (g : ∀ d, GR (R d)) (k : ∀ d, GR (S d)) (p : α × β) : GR (TpR R S p) := ⟨fun {X h Y h' v} l x => by
  obtain ⟨a, u₁, u₂, rfl, ha, ⟨o, ho, hc, n, hd⟩, h1, h2⟩ := x
  exact ⟨a, u₁, u₂, rfl, l.off ho ha, ⟨o, l.keep a o ha (.inl ⟨_, _, hd⟩) ho, hc, n, hd⟩, (g _).up l h1, (k _).up l h2⟩⟩

/-! a tree that keeps all that stands -/
def Ev (prog : Program) (w : World) (A : Around) (X : List Addr) (h : Heap) {α : Type} (t : Sem α) (R : List Addr → Heap → α → Prop) : Prop :=
  ∀ Y (s : Shared), Al Y s.heap → Le X h Y s.heap →
    wpAny (model prog w) A t (fun v s' => ∃ h' tk, s' = { s with heap := h', toks := tk } ∧ Kp s.heap h' ∧ R Y h' v) (fun _ _ => False) s

section
variable {prog : Program} {w : World} {A : Around} {X Y : List Addr} {h h' : Heap} {α β : Type}

theorem Ev.use {t : Sem α} {R : List Addr → Heap → α → Prop} {E : Value → Shared → Prop} {Q : α → Shared → Prop} {s : Shared} (x : Ev prog w A X h t R) (al : Al Y s.heap) (le : Le X h Y s.heap)
    (k : ∀ v h' tk, Kp s.heap h' → R Y h' v → Q v { s with heap := h', toks := tk }) : wpAny (model prog w) A t Q E s :=
  wpAny_mono (x Y s al le) (fun v s' ⟨h', tk, e, kp, r⟩ => e ▸ k v h' tk kp r) fun _ _ f => f.elim
theorem Ev.here {t : Sem α} {R : List Addr → Heap → α → Prop} {E : Value → Shared → Prop} {Q : α → Shared → Prop} {s : Shared} (x : Ev prog w A X s.heap t R) (al : Al X s.heap)
    (k : ∀ v h' tk, Kp s.heap h' → R X h' v → Q v { s with heap := h', toks := tk }) : wpAny (model prog w) A t Q E s := x.use al (Le.refl _ _) k
theorem Ev.lift {t : Sem α} {R : List Addr → Heap → α → Prop} (x : Ev prog w A X h t R) (l : Le X h Y h') : Ev prog w A Y h' t R := fun Z s al le => x Z s al (l.trans le)
theorem Ev.mono {t : Sem α} {R R' : List Addr → Heap → α → Prop} (x : Ev prog w A X h t R) (f : ∀ Y h' v, Le X h Y h' → R Y h' v → R' Y h' v) : Ev prog w A X h t R' := fun Y s al le =>
  x.use al le fun v h' tk kp r => ⟨h', tk, rfl, kp, f Y h' v (le.step kp) r⟩
theorem Ev.pure {a : α} {R : List Addr → Heap → α → Prop} (r : ∀ Y h', Le X h Y h' → R Y h' a) : Ev prog w A X h (Pure.pure a) R := fun Y s _ le => wpAny_pure ⟨s.heap, s.toks, rfl, Kp.refl _, r Y s.heap le⟩
theorem Ev.bind {t : Sem α} {k : α → Sem β} {R : List Addr → Heap → α → Prop} {R' : List Addr → Heap → β → Prop} (x : Ev prog w A X h t R)
    (y : ∀ Y h' v, Le X h Y h' → Al Y h' → R Y h' v → Ev prog w A Y h' (k v) R') : Ev prog w A X h (t >>= k) R' := fun Y s al le =>
  wpAny_bind (x.use al le fun v h₁ tk kp r => (y Y h₁ v (le.step kp) (al.up kp) r).use (s := { s with heap := h₁, toks := tk }) (al.up kp) (Le.refl _ _) fun u h₂ tk₂ kp₂ r₂ => ⟨h₂, tk₂, rfl, kp.trans kp₂, r₂⟩)
end
end Mine
end

section
namespace Mine
open PySem PySem.W PyProof.Rows PySem.Calls

/-! names -/
inductive See (env : Env) (h : Heap) (x : Str) (v : Value) : Prop
  | loc {m : Str → Option Value} (k : env.kindOf x = some .local) (n : h.Ns env.locals m) (e : m x = some v) : See env h x v
  | cell {c : Addr} (k : env.kindOf x = some .cell) (n : env.cells.lookup x = some c) (e : h.IsCell c (some v)) : See env h x v
  | free {c : Addr} (k : env.kindOf x = some .free) (n : env.cells.lookup x = some c) (e : h.IsCell c (some v)) (d : (x == ("__classdict__" : Str)) = false) : See env h x v
  | glob {m : Str → Option Value} (k : env.kindOf x = some .globalImplicit) (n : h.Ns env.globals m) (e : m x = some v) : See env h x v
  | built {m mb : Str → Option Value} (k : env.kindOf x = some .globalImplicit) (n : h.Ns env.globals m) (e : m x = none) (n' : h.Ns env.builtins mb) (e' : mb x = some v) : See env h x v
theorem See.up {env : Env} {h h' : Heap} {x : Str} {v : Value} (s : See env h x v) (k : Kp h h') : See env h' x v := by
  cases s with
  | loc a b c => exact .loc a (b.keeps k) c
  | cell a b c => exact .cell a b (c.keeps k)
  | free a b c d => exact .free a b (c.keeps k) d
  | glob a b c => exact .glob a (b.keeps k) c
  | built a b c d e => exact .built a (b.keeps k) c (d.keeps k) e

section
variable {prog : Program} {w : World} {A : Around} {X : List Addr} {h : Heap} {env : Env} {pos : Pos}

theorem see_load {M : Model} {s : Shared} {x : Str} {v : Value} {Q : Value → Shared → Prop} {E : Value → Shared → Prop} (S : See env s.heap x v) (hk : env.scope.kind = .function) (hd : (x == ("__debug__" : Str)) = false) (q : Q v s) :
    wpAny M A (eval (.Name x pos) env) Q E s := by
  cases S with
  | loc a b c => exact wpAny_Name (wpAny_loadName_local hk a b c q) hd
  | cell a b c => exact wpAny_Name (wpAny_loadName_cell hk a b c q) hd
  | free a b c d => exact wpAny_Name (wpAny_loadName_free hk a b c q d) hd
  | glob a b c => exact Name_function_global hk a (loadGlobal_global b c q) hd
  | built a b c d e => exact Name_function_global hk a (loadGlobal_builtin b c d e q) hd

theorem ev_name {x : Str} {v : Value} {R : Pr} (S : See env h x v) (g : GR R) (r : R X h v) (hk : env.scope.kind = .function) (hd : (x == ("__debug__" : Str)) = false) :
    Ev prog w A X h (eval (.Name x pos) env) R := fun _ s _ le => see_load (S.up le.kp) hk hd ⟨_, _, rfl, Kp.refl _, g.up le.lw r⟩

theorem ev_int {i : Int} {k : Nat} : Ev prog w A X h (eval (.Constant (.int i) k pos) env) (IntR i) := fun _ s _ _ => wpAny_Constant_int ⟨_, _, rfl, Kp.refl _, _, rfl⟩
theorem ev_str {x : Str} {k : Nat} : Ev prog w A X h (eval (.Constant (.str x) k pos) env) (TxR false x.cps.toList) := fun _ s _ _ => Constant_str ⟨_, _, rfl, Kp.refl _, s.toks, by simp⟩
theorem ev_bytes {x : List UInt8} {k : Nat} : Ev prog w A X h (eval (.Constant (.bytes x) k pos) env) (TxR true (x.map UInt8.toNat)) := fun _ s _ _ => Constant_bytes ⟨_, _, rfl, Kp.refl _, _, _, rfl, by simp⟩
theorem ev_bool {b : Bool} {k : Nat} : Ev prog w A X h (eval (.Constant (.bool b) k pos) env) (BoolR b) := fun _ s _ _ => fun _ _ _ => ⟨s.heap, s.toks, rfl, Kp.refl _, rfl⟩

theorem ev_BinOp {l r : Expr} {op : Operator} {Rl Rr R : Pr} (hl : Ev prog w A X h (eval l env) Rl) (g : GR Rl) (hr : Ev prog w A X h (eval r env) Rr)
    (ho : ∀ Y h' a b, Le X h Y h' → Rl Y h' a → Rr Y h' b → Ev prog w A Y h' (binaryOp op a b) R) : Ev prog w A X h (eval (.BinOp l op r pos) env) R := fun Y s al le =>
  wpAny_BinOp (hl.use al le fun a h₁ t₁ k₁ ra => hr.use (s := { s with heap := h₁, toks := t₁ }) (al.up k₁) (le.step k₁) fun b h₂ t₂ k₂ rb =>
    (ho Y h₂ a b ((le.step k₁).step k₂) (g.up (Le.of_kp k₂).lw ra) rb).here (s := { s with heap := h₂, toks := t₂ }) ((al.up k₁).up k₂) fun v h₃ t₃ k₃ rv => ⟨h₃, t₃, rfl, (k₁.trans k₂).trans k₃, rv⟩)

theorem ev_Cmp {l r : Expr} {op : CmpOp} {Rl Rr R : Pr} (hl : Ev prog w A X h (eval l env) Rl) (g : GR Rl) (hr : Ev prog w A X h (eval r env) Rr)
    (ho : ∀ Y h' a b, Le X h Y h' → Rl Y h' a → Rr Y h' b → Ev prog w A Y h' (compareOp op a b) R) (hm : behindInMarks op r = false) : Ev prog w A X h (eval (.Compare l [op] [r] pos) env) R := fun Y s al le =>
  wpAny_Compare1 (hl.use al le fun a h₁ t₁ k₁ ra => hr.use (s := { s with heap := h₁, toks := t₁ }) (al.up k₁) (le.step k₁) fun b h₂ t₂ k₂ rb =>
    (ho Y h₂ a b ((le.step k₁).step k₂) (g.up (Le.of_kp k₂).lw ra) rb).here (s := { s with heap := h₂, toks := t₂ }) ((al.up k₁).up k₂) fun v h₃ t₃ k₃ rv => ⟨h₃, t₃, rfl, (k₁.trans k₂).trans k₃, rv⟩) hm

/-! truth -/
def IsB (b : Bool) : List Addr → Heap → Bool → Prop := fun _ _ c => c = b
theorem tr_Cmp {l r : Expr} {op : CmpOp} {Rl Rr : Pr} {c : Bool} {whole : Sem Value} (hl : Ev prog w A X h (eval l env) Rl) (g : GR Rl) (hr : Ev prog w A X h (eval r env) Rr)
    (ho : ∀ Y h' a b, Le X h Y h' → Rl Y h' a → Rr Y h' b → Ev prog w A Y h' (compareOp op a b) (BoolR c)) (hm : behindInMarks op r = false) : Ev prog w A X h (isTrue (.Compare l [op] [r] pos) env whole) (IsB c) := fun Y s al le =>
  wpAny_isTrue_Compare1 (hl.use al le fun a h₁ t₁ k₁ ra => hr.use (s := { s with heap := h₁, toks := t₁ }) (al.up k₁) (le.step k₁) fun b h₂ t₂ k₂ rb =>
    (ho Y h₂ a b ((le.step k₁).step k₂) (g.up (Le.of_kp k₂).lw ra) rb).here (s := { s with heap := h₂, toks := t₂ }) ((al.up k₁).up k₂) fun v h₃ t₃ k₃ rv => by
      obtain rfl := rv; exact wpAny_truthy_bool ⟨h₃, t₃, rfl, (k₁.trans k₂).trans k₃, rfl⟩) hm

theorem ev_IfExp {test body orelse : Expr} {b : Bool} {R : Pr} (ht : Ev prog w A X h (isTrue test env (eval test env)) (IsB b)) (h1 : b = true → Ev prog w A X h (eval body env) R) (h2 : b = false → Ev prog w A X h (eval orelse env) R) :
    Ev prog w A X h (eval (.IfExp test body orelse pos) env) R := fun Y s al le =>
  wpAny_IfExp (ht.use al le fun c h₁ t₁ k₁ rc => by
    obtain rfl := rc
    cases c with
    | true => exact (h1 rfl).use (s := { s with heap := h₁, toks := t₁ }) (al.up k₁) (le.step k₁) fun v h₂ t₂ k₂ r => ⟨h₂, t₂, rfl, k₁.trans k₂, r⟩
    | false => exact (h2 rfl).use (s := { s with heap := h₁, toks := t₁ }) (al.up k₁) (le.step k₁) fun v h₂ t₂ k₂ r => ⟨h₂, t₂, rfl, k₁.trans k₂, r⟩)

/-! items and slices -/
theorem ev_Sub {value slice : Expr} {Rl Rr R : Pr} (hl : Ev prog w A X h (eval value env) Rl) (g : GR Rl) (hr : Ev prog w A X h (eval slice env) Rr)
    (ho : ∀ Y h' a b, Le X h Y h' → Rl Y h' a → Rr Y h' b → Ev prog w A Y h' (subscriptTail value slice a b) R) : Ev prog w A X h (eval (.Subscript value slice pos) env) R := fun Y s al le =>
  Subscript_ (hl.use al le fun a h₁ t₁ k₁ ra => hr.use (s := { s with heap := h₁, toks := t₁ }) (al.up k₁) (le.step k₁) fun b h₂ t₂ k₂ rb =>
    (ho Y h₂ a b ((le.step k₁).step k₂) (g.up (Le.of_kp k₂).lw ra) rb).here (s := { s with heap := h₂, toks := t₂ }) ((al.up k₁).up k₂) fun v h₃ t₃ k₃ rv => ⟨h₃, t₃, rfl, (k₁.trans k₂).trans k₃, rv⟩)

theorem ev_item_list {value slice : Expr} {α : Type} {R : α → Pr} {ds : List α} {k : Int} {d : α} {a b : Value} (ra : LsR R ds X h a) (rb : IntR k X h b) (h0 : 0 ≤ k) (hk : k < 2 ^ 63) (hd : ds[k.toNat]? = some d) (g : ∀ d, GR (R d))
    (hs : ∀ l u, subscripted slice false (.ref l) (.int k u) = operate [.ref l, .int k u] (getItem (.ref l) (.int k u))) : Ev prog w A X h (subscriptTail value slice a b) (R d) := fun Y s al le => by
  obtain ⟨l, vs, rfl, _, hl, hx⟩ := (gr_ls g ds).up le.lw ra
  obtain ⟨u, rfl⟩ := rb
  obtain ⟨v, hv, rv⟩ := hx.get' hd
  exact tail_any hl.isList.typeIs slot_list_getitem.lookup (wpAny_getItem_list hl.isList h0 hk (by simpa using hv) ⟨s.heap, s.toks, rfl, Kp.refl _, rv⟩) (hs l u)

theorem get_push (h : Heap) (o : Obj) (hf : o.isFreed = false) : (h.push o).get? h.objs.size = some o := Heap.get?_push_size _ hf
theorem kp_push (h : Heap) (o : Obj) : Kp h (h.push o) := fun _ _ e => Heap.get?_push_of_some _ e
theorem get_size (h : Heap) : h.get? h.objs.size = none := by
  cases q : h.get? h.objs.size with
  | none => rfl
  | some o => exact absurd (Heap.lt_size q) (Nat.lt_irrefl _)
theorem get_ge {h : Heap} {a : Addr} (ha : h.objs.size ≤ a) : h.get? a = none := by
  cases q : h.get? a with
  | none => rfl
  | some o => exact absurd (Heap.lt_size q) (Nat.not_lt.mpr ha)

/-- a made list: what stands at a new place -/
theorem made_list {α : Type} {R : α → Pr} {ds : List α} {Y : List Addr} {h h' : Heap} {a : Addr} {vs : List Value} {n : Nat} (al : Al Y h) (na : h.get? a = none) (e : h'.get? a = some { cls := .type "list", data := .seq vs.toArray n })
    (hx : All2 (fun u d => R d Y h' u) vs ds) : LsR R ds Y h' (.ref a) := ⟨a, vs, rfl, al.not na, ⟨n, e⟩, hx⟩


theorem ev_slice_list {value : Expr} {lower upper : Option Expr} {p : Pos} {α : Type} {R : α → Pr} {ds : List α} {lo hi : Option Int} (hv : Ev prog w A X h (eval value env) (LsR R ds)) (g : ∀ d, GR (R d))
    (hl : Ev prog w A X h (evalPart lower env) (fun _ _ v => IsPart v lo)) (hu : Ev prog w A X h (evalPart upper env) (fun _ _ v => IsPart v hi)) (hsz : ds.length ≤ sizeLine)
    (ht : ∀ o r, letTemporaryGo value o r = pure ()) :
    Ev prog w A X h (eval (.Subscript value (.Slice lower upper none p) pos) env) (LsR R ((ds.drop (lo.elim 0 (clipAt ds.length))).take (hi.elim ds.length (clipAt ds.length) - lo.elim 0 (clipAt ds.length)))) := fun Y s al le => by
  refine wpAny_Subscript_list_slice (hv.use al le fun a h₁ t₁ k₁ ra => hl.use (s := { s with heap := h₁, toks := t₁ }) (al.up k₁) (le.step k₁) fun b h₂ t₂ k₂ rb => hu.use (s := { s with heap := h₂, toks := t₂ }) ((al.up k₁).up k₂) ((le.step k₁).step k₂) fun c h₃ t₃ k₃ rc => ?_) ht
  obtain ⟨l, vs, rfl, nl, il, hx⟩ := (gr_ls g ds).up (Le.of_kp (k₂.trans k₃)).lw ra
  have hlen := hx.length
  refine ⟨l, vs.toArray, lo, hi, rfl, il.isList, by simpa [hlen] using hsz, rb, rc, _, t₃, rfl, ((k₁.trans k₂).trans k₃).trans ((kp_push _ _).trans (kp_push _ _)), ?_⟩
  have al3 := ((al.up k₁).up k₂).up k₃
  have e1 : ((h₃.push { cls := .type "slice", data := .fields #[b, c, .none] }).objs.size) = h₃.objs.size + 1 := Heap.size_push _ _
  refine made_list (n := 0) (vs := (vs.drop (lo.elim 0 (clipAt ds.length))).take (hi.elim ds.length (clipAt ds.length) - lo.elim 0 (clipAt ds.length))) al3 (get_ge (Nat.le_succ _)) ?_ ?_
  · rw [← e1, get_push _ _ rfl, slicePick_plain]; simp [hlen]
  exact ((hx.drop _).take _).imp fun u d _ _ f => (g d).up (Le.of_kp ((kp_push _ _).trans (kp_push _ _))).lw f

theorem ev_part_none : Ev prog w A X h (evalPart none env) (fun _ _ v => IsPart v none) := fun _ s _ _ => wpAny_evalPart_none ⟨s.heap, s.toks, rfl, Kp.refl _, .none⟩
theorem ev_part_some {e : Expr} {i : Int} (he : Ev prog w A X h (eval e env) (IntR i)) : Ev prog w A X h (evalPart (some e) env) (fun _ _ v => IsPart v (some i)) := fun Y s al le =>
  wpAny_evalPart_some (he.use al le fun v h' t k r => ⟨h', t, rfl, k, by obtain ⟨u, rfl⟩ := r; exact .int i u⟩)

theorem ev_upto_list {value e : Expr} {p : Pos} {α : Type} {R : α → Pr} {ds : List α} {k : Nat} (hv : Ev prog w A X h (eval value env) (LsR R ds)) (g : ∀ d, GR (R d)) (he : Ev prog w A X h (eval e env) (IntR k)) (hsz : ds.length ≤ sizeLine)
    (ht : ∀ o r, letTemporaryGo value o r = pure ()) : Ev prog w A X h (eval (.Subscript value (.Slice none (some e) none p) pos) env) (LsR R (ds.take k)) := by
  have x := ev_slice_list (pos := pos) (p := p) hv g ev_part_none (ev_part_some he) hsz ht
  simp only [Option.elim, List.drop_zero, Nat.sub_zero, clipAt_nat] at x
  have e : ds.take (min k ds.length) = ds.take k := by rw [List.take_eq_take_iff]; omega
  rw [e] at x; exact x
theorem ev_from_list {value e : Expr} {p : Pos} {α : Type} {R : α → Pr} {ds : List α} {k : Nat} (hv : Ev prog w A X h (eval value env) (LsR R ds)) (g : ∀ d, GR (R d)) (he : Ev prog w A X h (eval e env) (IntR k)) (hsz : ds.length ≤ sizeLine)
    (ht : ∀ o r, letTemporaryGo value o r = pure ()) : Ev prog w A X h (eval (.Subscript value (.Slice (some e) none none p) pos) env) (LsR R (ds.drop k)) := by
  have x := ev_slice_list (pos := pos) (p := p) hv g (ev_part_some he) ev_part_none hsz ht
  simp only [Option.elim, clipAt_nat] at x
  have e : (ds.drop (min k ds.length)).take (ds.length - min k ds.length) = ds.drop k := by
    rw [List.take_of_length_le (by rw [List.length_drop]; omega)]
    by_cases hk : k ≤ ds.length
    · rw [Nat.min_eq_left hk]
    · rw [Nat.min_eq_right (by omega), List.drop_length, List.drop_eq_nil_of_le (by omega)]
  rw [e] at x; exact x

/-! displays -/
def Ls2 : List Pr → List Addr → Heap → List Value → Prop
  | [], _, _, vs => vs = []
  | R :: Rs, X, h, vs => ∃ v us, vs = v :: us ∧ R X h v ∧ Ls2 Rs X h us
theorem ls2_up {Rs : List Pr} (g : ∀ R ∈ Rs, GR R) {X Y : List Addr} {h h' : Heap} {vs : List Value} (l : Lw X h Y h') (x : Ls2 Rs X h vs) : Ls2 Rs Y h' vs := by
  induction Rs generalizing vs with
  | nil => exact x
  | cons R Rs ih =>
    obtain ⟨v, us, rfl, r, rs⟩ := x
    exact ⟨v, us, rfl, (g R (.head _)).up l r, ih (fun R hR => g R (.tail _ hR)) rs⟩
theorem ev_args_nil {p : Pos} : Ev prog w A X h (spliced (backTo p (starEach [] env))) (Ls2 []) := fun _ s _ _ => spliced_none ⟨s.heap, s.toks, rfl, Kp.refl _, rfl⟩
theorem ev_args_cons {p : Pos} {e : Expr} {rest : List Expr} {R : Pr} {Rs : List Pr} (h1 : Ev prog w A X h (eval e env) R) (g : GR R) (h2 : Ev prog w A X h (spliced (backTo p (starEach rest env))) (Ls2 Rs))
    (he : starEach (e :: rest) env = (false, eval e env) :: starEach rest env) : Ev prog w A X h (spliced (backTo p (starEach (e :: rest) env))) (Ls2 (R :: Rs)) := fun Y s al le =>
  spliced_more (h1.use al le fun v h₁ t₁ k₁ r => h2.use (s := { s with heap := h₁, toks := t₁ }) (al.up k₁) (le.step k₁) fun us h₂ t₂ k₂ rs =>
    ⟨h₂, t₂, rfl, k₁.trans k₂, v, us, rfl, g.up (Le.of_kp k₂).lw r, rs⟩) he

theorem ev_newList {α : Type} {R : α → Pr} {ds : List α} {vs : List Value} (g : ∀ d, GR (R d)) (hx : All2 (fun u d => R d X h u) vs ds) (hsz : ds.length ≤ sizeLine) : Ev prog w A X h (newList vs) (LsR R ds) := fun Y s al le => by
  refine wpAny_newList ⟨_, s.toks, rfl, kp_push _ _, made_list al (get_size _) (get_push _ _ rfl) (hx.imp fun u d _ _ f => (g d).up (le.step (kp_push _ _)).lw f)⟩ (by rw [hx.length]; exact hsz)
theorem ev_List {elts : List Expr} {α : Type} {R : α → Pr} {ds : List α} {Rs : List Pr} (ha : Ev prog w A X h (spliced (backTo pos (starEach elts env))) (Ls2 Rs)) (g : ∀ d, GR (R d))
    (hx : ∀ Y h' vs, Ls2 Rs Y h' vs → All2 (fun u d => R d Y h' u) vs ds) (hsz : ds.length ≤ sizeLine) : Ev prog w A X h (eval (.List elts pos) env) (LsR R ds) := fun Y s al le =>
  List_ (ha.use al le fun vs h₁ t₁ k₁ r => (ev_newList g (hx Y h₁ vs r) hsz).here (s := { s with heap := h₁, toks := t₁ }) (al.up k₁) fun v h₂ t₂ k₂ r₂ => ⟨h₂, t₂, rfl, k₁.trans k₂, r₂⟩)
theorem ev_Tuple2 {elts : List Expr} {n : Nat} {α β : Type} {R : α → Pr} {S : β → Pr} {d : α} {e : β} (ha : Ev prog w A X h (spliced (backTo pos (starEach elts env))) (Ls2 [R d, S e])) (g : ∀ d, GR (R d)) (g' : ∀ d, GR (S d)) :
    Ev prog w A X h (eval (.Tuple elts n pos) env) (TpR R S (d, e)) := fun Y s al le =>
  Tuple_ (ha.use al le fun vs h₁ t₁ k₁ r => by
    obtain ⟨v, us, rfl, r1, u, us', rfl, r2, rfl⟩ := r
    refine wpAny_newTuple ⟨_, t₁, rfl, k₁.trans (kp_push _ _), _, v, u, rfl, (al.up k₁).not (get_size _), ⟨_, get_push _ _ rfl, rfl, 0, rfl⟩, (g d).up (Le.of_kp (kp_push _ _)).lw r1, (g' e).up (Le.of_kp (kp_push _ _)).lw r2⟩ (by simp [sizeLine_eq]))
end
end Mine
end

section
namespace Mine
open PySem PySem.W PyProof.Rows PySem.Calls PySem.SeqAt

section
variable {prog : Program} {w : World} {A : Around} {X : List Addr} {h : Heap} {env : Env} {pos : Pos} {a b : Value}

/-! ints -/
theorem op_add {i j : Int} (ra : IntR i X h a) (rb : IntR j X h b) : Ev prog w A X h (binaryOp .Add a b) (IntR (i + j)) := fun Y s al le => by
  obtain ⟨t, rfl⟩ := ra; obtain ⟨u, rfl⟩ := rb; exact PyProof.Rows.add_int ⟨_, _, rfl, Kp.refl _, _, rfl⟩
theorem op_mod {i j : Int} (hj : j ≠ 0) (ra : IntR i X h a) (rb : IntR j X h b) : Ev prog w A X h (binaryOp .Mod a b) (IntR (i.fmod j)) := fun Y s al le => by
  obtain ⟨t, rfl⟩ := ra; obtain ⟨u, rfl⟩ := rb; exact mod_int' hj ⟨_, _, rfl, Kp.refl _, _, rfl⟩
theorem op_fdiv {i j : Int} (hj : j ≠ 0) (hp : ∀ i, Builtin.divisionGoesByPylong i j = false) (ra : IntR i X h a) (rb : IntR j X h b) : Ev prog w A X h (binaryOp .FloorDiv a b) (IntR (i.fdiv j)) := fun Y s al le => by
  obtain ⟨t, rfl⟩ := ra; obtain ⟨u, rfl⟩ := rb; exact floordiv_int hj ⟨_, _, rfl, Kp.refl _, _, rfl⟩ (.inl (hp i))
theorem op_shr {i j : Int} (hj : 0 ≤ j) (ra : IntR i X h a) (rb : IntR j X h b) : Ev prog w A X h (binaryOp .RShift a b) (IntR (i.fdiv (2 ^ j.toNat))) := fun Y s al le => by
  obtain ⟨t, rfl⟩ := ra; obtain ⟨u, rfl⟩ := rb; exact rshift_int hj ⟨_, _, rfl, Kp.refl _, _, rfl⟩
theorem op_band {i j : Int} (ra : IntR i X h a) (rb : IntR j X h b) : Ev prog w A X h (binaryOp .BitAnd a b) (IntR (Builtin.bitAnd i j)) := fun Y s al le => by
  obtain ⟨t, rfl⟩ := ra; obtain ⟨u, rfl⟩ := rb; exact and_int ⟨_, _, rfl, Kp.refl _, _, rfl⟩
theorem op_ieq {i j : Int} (ra : IntR i X h a) (rb : IntR j X h b) : Ev prog w A X h (compareOp .Eq a b) (BoolR (i == j)) := fun Y s al le => by
  obtain ⟨t, rfl⟩ := ra; obtain ⟨u, rfl⟩ := rb; exact PyProof.Rows.eq_int ⟨_, _, rfl, Kp.refl _, rfl⟩
theorem op_ilt {i j : Int} (ra : IntR i X h a) (rb : IntR j X h b) : Ev prog w A X h (compareOp .Lt a b) (BoolR (decide (i < j))) := fun Y s al le => by
  obtain ⟨t, rfl⟩ := ra; obtain ⟨u, rfl⟩ := rb; exact PyProof.Rows.lt_int ⟨_, _, rfl, Kp.refl _, rfl⟩
theorem tr_val {e : Expr} {R : Pr} {c : Bool} (he : Ev prog w A X h (eval e env) R) (ht : ∀ Y h' v, R Y h' v → Ev prog w A Y h' (truthy v) (IsB c))
    (hs : isTrue e env (eval e env) = (do let v ← eval e env; standAt e.pos; holding [v] (truthy v))) : Ev prog w A X h (isTrue e env (eval e env)) (IsB c) := fun Y s al le =>
  wpAny_isTrue_value (he.use al le fun v h₁ t₁ k₁ r => (ht Y h₁ v r).here (s := { s with heap := h₁, toks := t₁ }) (al.up k₁) fun c' h₂ t₂ k₂ r₂ => ⟨h₂, t₂, rfl, k₁.trans k₂, r₂⟩) hs
theorem op_itruthy {i : Int} (ra : IntR i X h a) : Ev prog w A X h (truthy a) (IsB (i != 0)) := fun Y s al le => by
  obtain ⟨t, rfl⟩ := ra; exact PyProof.Rows.truthy_int ⟨s.heap, s.toks, rfl, Kp.refl _, rfl⟩
theorem op_btruthy {c : Bool} (ra : BoolR c X h a) : Ev prog w A X h (truthy a) (IsB c) := fun Y s al le => by
  obtain rfl := ra; exact wpAny_truthy_bool ⟨s.heap, s.toks, rfl, Kp.refl _, rfl⟩

/-! texts -/
theorem txt_str {l : List Nat} {v : Value} (r : TxR false l X h v) : ∃ t, v = .str ⟨l.toArray⟩ t := r
theorem txt_bytes {l : List Nat} {v : Value} (r : TxR true l X h v) : ∃ b t, v = .bytes b t ∧ b.toList.map UInt8.toNat = l := r
theorem toNat_inj {b c : List UInt8} (e : b.map UInt8.toNat = c.map UInt8.toNat) : b = c := by
  induction b generalizing c with
  | nil => cases c with
    | nil => rfl
    | cons y c => simp at e
  | cons x b ih => cases c with
    | nil => simp at e
    | cons y c =>
      simp only [List.map_cons, List.cons.injEq] at e
      rw [UInt8.toNat_inj.mp e.1, ih e.2]
theorem beq_bytes (b c : List UInt8) : (b == c) = decide (b.map UInt8.toNat = c.map UInt8.toNat) := by
  by_cases e : b = c
  · subst e; simp
  · rw [decide_eq_false fun q => e (toNat_inj q)]; simpa using e
theorem beq_strs (l m : List Nat) : ((⟨l.toArray⟩ : Str) == ⟨m.toArray⟩) = decide (l = m) := by
  by_cases e : l = m
  · subst e; simp
  · rw [decide_eq_false e]
    refine beq_eq_false_iff_ne.mpr fun q => e ?_
    simpa using q
theorem op_teq {o : Bool} {l m : List Nat} (ra : TxR o l X h a) (rb : TxR o m X h b) : Ev prog w A X h (compareOp .Eq a b) (BoolR (decide (l = m))) := fun Y s al le => by
  cases o with
  | false =>
    obtain ⟨t, rfl⟩ := ra; obtain ⟨u, rfl⟩ := rb
    exact PyProof.Rows.eq_str ⟨_, _, rfl, Kp.refl _, by rw [beq_strs]; rfl⟩
  | true =>
    obtain ⟨x, t, rfl, rfl⟩ := ra; obtain ⟨y, u, rfl, rfl⟩ := rb
    exact eq_bytes ⟨_, _, rfl, Kp.refl _, by rw [beq_bytes]; rfl⟩

/-! equality of any depth -/
structure EqR {α : Type} [DecidableEq α] (R : α → Pr) (n : Nat) : Prop where
  one : ∀ {X h v d e}, R d X h v → R e X h v → d = e
  eq : ∀ {A : Around} {X : List Addr} {s : Shared} {a b d e}, A.units + n < cLine → R d X s.heap a → R e X s.heap b → EqAt A s a b (decide (d = e))

theorem eqAt_bytes (A : Around) (s : Shared) (b c : Array UInt8) (t u : Tok) : EqAt A s (.bytes b t) (.bytes c u) (b.toList == c.toList) := fun prog w E Q hq => by
  unfold eqBool
  refine wpAny_holding ?_
  refine wpAny_ite_split (fun hab => ?_) (fun _ => ?_)
  · have e := eq_of_beq hab
    injection e with e1 e2
    subst e1
    refine wpAny_bind (wpAny_rule (wpAny_pure ?_))
    rw [beq_self_eq_true] at hq; exact hq
  · exact wpAny_bind (show wpAny _ _ (compareOp .Eq (.bytes b t) (.bytes c u)) _ _ _ from eq_bytes (wpAny_truthy_bool hq))
theorem eqr_tx (o : Bool) : EqR (TxR o) 0 where
  one := fun {X h v d e} ra rb => by
    cases o with
    | false => obtain ⟨t, rfl⟩ := ra; obtain ⟨u, q⟩ := rb; injection q with q1 q2; injection q1 with q1; simpa using q1
    | true => obtain ⟨x, t, rfl, rfl⟩ := ra; obtain ⟨y, u, q, rfl⟩ := rb; injection q with q1 q2; rw [q1]
  eq := fun {A X s a b d e} hu ra rb => by
    cases o with
    | false => obtain ⟨t, rfl⟩ := ra; obtain ⟨u, rfl⟩ := rb; rw [← beq_strs]; exact EqAt.str_str _ _ _ _
    | true => obtain ⟨x, t, rfl, rfl⟩ := ra; obtain ⟨y, u, rfl, rfl⟩ := rb; rw [← beq_bytes]; exact eqAt_bytes _ _ _ _ _ _
theorem eqr_int : EqR IntR 0 where
  one := fun {X h v d e} ra rb => by obtain ⟨t, rfl⟩ := ra; obtain ⟨u, q⟩ := rb; injection q
  eq := fun {A X s a b d e} hu ra rb => by
    obtain ⟨t, rfl⟩ := ra; obtain ⟨u, rfl⟩ := rb
    have q := EqAt.int_int (A := A) (s := s) d t e u
    rwa [show (d == e) = decide (d = e) from rfl] at q

theorem all2_one {α : Type} {R : α → Pr} (f : ∀ {X h v d e}, R d X h v → R e X h v → d = e) {X : List Addr} {h : Heap} {vs : List Value} {ds es : List α} (h1 : All2 (fun u d => R d X h u) vs ds) (h2 : All2 (fun u d => R d X h u) vs es) : ds = es := by
  induction h1 generalizing es with
  | nil => cases h2; rfl
  | cons a _ ih => cases h2 with | cons b c => rw [f a b, ih c]
theorem ls_one {α : Type} {R : α → Pr} (f : ∀ {X h v d e}, R d X h v → R e X h v → d = e) {X : List Addr} {h : Heap} {v : Value} {ds es : List α} (ra : LsR R ds X h v) (rb : LsR R es X h v) : ds = es := by
  obtain ⟨x, vs, rfl, _, ⟨n, ho⟩, hx⟩ := ra
  obtain ⟨y, ws, q, _, ⟨n', ho'⟩, hy⟩ := rb
  injection q with q; subst q
  rw [ho] at ho'; injection ho' with e; injection e with _ _ e _; injection e with e1 e2
  have e3 : vs = ws := by simpa using e1
  subst e3
  exact all2_one (@f) hx hy

theorem eq_items {α : Type} [DecidableEq α] {R : α → Pr} {n : Nat} (E : EqR R n) {A : Around} {X : List Addr} {s : Shared} {vs ws : List Value} {ds es : List α} (hu : A.units + n < cLine) (hx : All2 (fun u d => R d X s.heap u) vs ds) (hy : All2 (fun u d => R d X s.heap u) ws es)
    (j : Nat) (h1 : j < vs.toArray.size) (h2 : j < ws.toArray.size) : EqAt A s vs.toArray[j] ws.toArray[j] (decide (ds[j]? = es[j]?)) := by
  have h1' : j < vs.length := by simpa using h1
  have h2' : j < ws.length := by simpa using h2
  obtain ⟨d, hd, rd⟩ := hx.get (List.getElem?_eq_getElem h1')
  obtain ⟨e, he, re⟩ := hy.get (List.getElem?_eq_getElem h2')
  have q := E.eq hu rd re
  rw [hd, he]
  simp only [Option.some.injEq, List.getElem_toArray]
  exact q
theorem range_all_eq {α : Type} [DecidableEq α] {ds es : List α} (hl : ds.length = es.length) : ((List.range ds.length).all fun j => decide (ds[j]? = es[j]?)) = decide (ds = es) := by
  by_cases e : ds = es
  · subst e; simp
  · rw [decide_eq_false e]
    refine Bool.eq_false_iff.mpr fun q => e ?_
    refine List.ext_getElem? fun j => ?_
    by_cases hj : j < ds.length
    · have := List.all_eq_true.mp q j (List.mem_range.mpr hj); simpa using this
    · rw [List.getElem?_eq_none (by omega), List.getElem?_eq_none (by omega)]

theorem ls_rc {α : Type} [DecidableEq α] {R : α → Pr} {n : Nat} (E : EqR R n) {A : Around} {X : List Addr} {s : Shared} {a b : Addr} {ds es : List α} (hu : A.units + (n + 1) < cLine) (ra : LsR R ds X s.heap (.ref a)) (rb : LsR R es X s.heap (.ref b)) :
    RcAt A s (.ref a) (.ref b) (decide (ds = es)) := by
  obtain ⟨x, vs, q, _, hl, hx⟩ := ra; injection q with q; subst q
  obtain ⟨y, ws, q, _, hk, hy⟩ := rb; injection q with q; subst q
  have l1 := hx.length
  have l2 := hy.length
  by_cases hl' : ds.length = es.length
  · have q := RcAt.lists (A := A) hl.isList hk.isList (by simp; omega) (by omega) (e := fun j => decide (ds[j]? = es[j]?)) (fun j h1 h2 => eq_items E (A := A.in1) (by simp; omega) hx hy j h1 h2)
    rw [show vs.toArray.size = ds.length by simp [l1], range_all_eq hl'] at q
    exact q
  · rw [decide_eq_false fun q => hl' (by rw [q])]
    exact RcAt.lists_lengths hl.isList hk.isList (by simp; omega) (by omega)
theorem eqr_ls {α : Type} [DecidableEq α] {R : α → Pr} {n : Nat} (E : EqR R n) : EqR (LsR R) (n + 1) where
  one := fun {X h v d e} ra rb => ls_one (@E.one) ra rb
  eq := fun {A X s a b d e} hu ra rb => by
    have ra' := ra
    have rb' := rb
    obtain ⟨x, vs, rfl, _⟩ := ra
    obtain ⟨y, ws, rfl, _⟩ := rb
    by_cases hxy : x = y
    · subst hxy
      rw [decide_eq_true (ls_one (@E.one) ra' rb')]; exact EqAt.same _
    · exact EqAt.of_refs hxy (ls_rc E hu ra' rb')

theorem op_leq {α : Type} [DecidableEq α] {R : α → Pr} {n : Nat} (E : EqR R n) (g : ∀ d, GR (R d)) {ds es : List α} (hu : A.units + (n + 1) < cLine) (ra : LsR R ds X h a) (rb : LsR R es X h b) : Ev prog w A X h (compareOp .Eq a b) (BoolR (decide (ds = es))) := fun Y s al le => by
  have ra' := (gr_ls g ds).up le.lw ra
  have rb' := (gr_ls g es).up le.lw rb
  obtain ⟨x, vs, rfl, _⟩ := ra
  obtain ⟨y, ws, rfl, _⟩ := rb
  exact ls_rc E hu ra' rb' prog w _ _ ⟨_, _, rfl, Kp.refl _, rfl⟩
theorem op_lne {α : Type} [DecidableEq α] {R : α → Pr} {n : Nat} (E : EqR R n) (g : ∀ d, GR (R d)) {ds es : List α} (hu : A.units + (n + 1) < cLine) (ra : LsR R ds X h a) (rb : LsR R es X h b) : Ev prog w A X h (compareOp .NotEq a b) (BoolR (!decide (ds = es))) := fun Y s al le => by
  obtain ⟨x, vs, rfl, _, hl, hx⟩ := (gr_ls g ds).up le.lw ra
  obtain ⟨y, ws, rfl, _, hk, hy⟩ := (gr_ls g es).up le.lw rb
  have l1 := hx.length
  have l2 := hy.length
  by_cases hl' : ds.length = es.length
  · have q := RcNeAt.lists (A := A) hl.isList hk.isList (by simp; omega) (by omega) (e := fun j => decide (ds[j]? = es[j]?)) (fun j h1 h2 => eq_items E (A := A.in1) (by simp; omega) hx hy j h1 h2)
    rw [show vs.toArray.size = ds.length by simp [l1], range_all_eq hl'] at q
    exact q prog w _ _ ⟨_, _, rfl, Kp.refl _, rfl⟩
  · rw [decide_eq_false fun q => hl' (by rw [q])]
    exact RcNeAt.lists_lengths hl.isList hk.isList (by simp; omega) (by omega) prog w _ _ ⟨_, _, rfl, Kp.refl _, rfl⟩

open Classical in
/-- one item's word: equal to d -/
noncomputable def hit {α : Type} (R : α → Pr) (d : α) (X : List Addr) (h : Heap) (v : Value) : Bool := decide (R d X h v)
theorem hit_of {α : Type} [DecidableEq α] {R : α → Pr} {n : Nat} (E : EqR R n) {X : List Addr} {h : Heap} {v : Value} {d e : α} (r : R e X h v) : hit R d X h v = decide (e = d) := by
  unfold hit
  by_cases q : e = d
  · subst q; simp [r]
  · simp only [q, decide_false, decide_eq_false_iff_not]
    exact fun r' => q (E.one r r')
theorem any_hit {α : Type} [DecidableEq α] {R : α → Pr} {n : Nat} (E : EqR R n) {X : List Addr} {h : Heap} {vs : List Value} {ds : List α} {d : α} (hx : All2 (fun u d => R d X h u) vs ds) : vs.toArray.any (hit R d X h) = decide (d ∈ ds) := by
  rw [List.any_toArray]
  induction hx with
  | nil => simp
  | cons r _ ih =>
    rw [List.any_cons, ih, hit_of E r]
    simp only [List.mem_cons, Bool.decide_or]
    congr 1
    exact decide_eq_decide.mpr ⟨Eq.symm, Eq.symm⟩
theorem op_in {α : Type} [DecidableEq α] {R : α → Pr} {n : Nat} (E : EqR R n) (g : ∀ d, GR (R d)) {d : α} {ds : List α} (hu : A.units + (n + 1) < cLine) (ra : R d X h a) (rb : LsR R ds X h b) : Ev prog w A X h (compareOp .In a b) (BoolR (decide (d ∈ ds))) := fun Y s al le => by
  have ra' := (g d).up le.lw ra
  obtain ⟨x, vs, rfl, _, hl, hx⟩ := (gr_ls g ds).up le.lw rb
  refine in_listAt (hit R d Y s.heap) hl.isList (fun y hy => ?_) ⟨_, _, rfl, Kp.refl _, by rw [any_hit E hx]; rfl⟩
  obtain ⟨e, _, re⟩ := hx.mem (by simpa using hy)
  rw [hit_of E re]
  exact E.eq (by simp; omega) re ra'
theorem op_notIn {α : Type} [DecidableEq α] {R : α → Pr} {n : Nat} (E : EqR R n) (g : ∀ d, GR (R d)) {d : α} {ds : List α} (hu : A.units + (n + 1) < cLine) (ra : R d X h a) (rb : LsR R ds X h b) : Ev prog w A X h (compareOp .NotIn a b) (BoolR (!decide (d ∈ ds))) := fun Y s al le => by
  have ra' := (g d).up le.lw ra
  obtain ⟨x, vs, rfl, _, hl, hx⟩ := (gr_ls g ds).up le.lw rb
  refine notIn_listAt (hit R d Y s.heap) hl.isList (fun y hy => ?_) ⟨_, _, rfl, Kp.refl _, by rw [any_hit E hx]; rfl⟩
  obtain ⟨e, _, re⟩ := hx.mem (by simpa using hy)
  rw [hit_of E re]
  exact E.eq (by simp; omega) re ra'

/-! is -/
theorem op_is {c d : Bool} (ra : BoolR c X h a) (rb : BoolR d X h b) : Ev prog w A X h (compareOp .Is a b) (BoolR (c == d)) := fun Y s al le => by
  obtain rfl := ra; obtain rfl := rb
  by_cases e : c = d
  · subst e; exact wpAny_is_self rfl ⟨_, _, rfl, Kp.refl _, by simp [BoolR]⟩
  · exact wpAny_is_other rfl (by intro q; injection q with q; exact e q) ⟨_, _, rfl, Kp.refl _, by simp [BoolR, e]⟩
theorem op_isNot {c d : Bool} (ra : BoolR c X h a) (rb : BoolR d X h b) : Ev prog w A X h (compareOp .IsNot a b) (BoolR (c != d)) := fun Y s al le => by
  obtain rfl := ra; obtain rfl := rb
  by_cases e : c = d
  · subst e; exact wpAny_isNot_self rfl ⟨_, _, rfl, Kp.refl _, by simp [BoolR]⟩
  · exact wpAny_isNot_other rfl (by intro q; injection q with q; exact e q) ⟨_, _, rfl, Kp.refl _, by simp [BoolR, e]⟩
end
end Mine
end

section
namespace Mine
open PySem PySem.W PyProof.Rows PySem.Calls PySem.SeqAt

/-! what an iterator will give -/
def ItR (prog : Program) (w : World) (A : Around) (X : List Addr) (h : Heap) {α : Type} (R : α → Pr) (ds : List α) : Pr := fun _ h' it =>
  ∃ I fp P St, it = .ref I ∧ h.get? I = none ∧ Walks prog w A I fp [I] ds.length P St ∧ St 0 h' ∧ (∀ b ∈ fp, b = I ∨ (b ∉ X ∧ ∃ o, h.get? b = some o ∧ Fz o)) ∧ (∀ i h, St i h → ∃ o, h.get? I = some o) ∧
    (∀ i v d, P i v → ds[i]? = some d → R d X h v)
def RgR (n : Nat) : Pr := fun X h v => ∃ r t u z, v = .ref r ∧ r ∉ X ∧ IsRange h r 0 n 1 t u z
theorem gr_rg (n : Nat) : GR (RgR n) := ⟨by
  rintro X h Y h' v l ⟨r, t, u, z, rfl, hn, e⟩
  exact ⟨r, t, u, z, rfl, l.off e hn, l.keep r _ hn (.inr ⟨_, rfl, rfl⟩) e⟩⟩

section
variable {prog : Program} {w : World} {A : Around} {X : List Addr} {h : Heap} {env : Env} {pos : Pos} {a : Value}
theorem ev_iter_list {α : Type} {R : α → Pr} {ds : List α} (hA : A.handled = none) (g : ∀ d, GR (R d)) (ra : LsR R ds X h a) : Ev prog w A X h (pyIter a) (ItR prog w A X h R ds) := fun Y s al le => by
  have ra' := ra
  obtain ⟨l, vs, rfl, _, hl, hx⟩ := (gr_ls g ds).up le.lw ra
  obtain ⟨l', vs', q, nX, hl', hx'⟩ := ra'
  injection q with q; subst q
  have hlt : l < s.heap.objs.size := by obtain ⟨_, e⟩ := hl; exact Heap.lt_size e
  have e0 : vs' = vs := by
    obtain ⟨n, ho⟩ := hl'
    obtain ⟨n2, ho2⟩ := hl
    rw [le.kp _ _ ho] at ho2; injection ho2 with e; injection e with _ _ e _; injection e with e1; simpa using e1
  subst e0
  refine wpAny_pyIter_list hl.isList ⟨_, s.toks, rfl, kp_push _ _, s.heap.objs.size, [s.heap.objs.size, l], fun i v => vs'.toArray[i]? = some v, fun i h => h.IsListIter s.heap.objs.size l i ∧ h.IsList l vs'.toArray, rfl, le.kp.none (get_size _), ?_, ?_, ?_, fun i h st => (let ⟨o, e, _⟩ := st.1; ⟨o, e⟩), ?_⟩
  · have W := Walks.list (prog := prog) (w := w) hA s.heap.objs.size l (Nat.ne_of_lt hlt) vs'.toArray
    rw [show vs'.toArray.size = ds.length by simp [hx'.length]] at W
    exact W
  · exact ⟨⟨_, get_push _ _ rfl, rfl, rfl⟩, hl.isList.push _⟩
  · intro b hb
    rcases List.mem_cons.mp hb with rfl | hb
    · exact .inl rfl
    · rw [List.mem_singleton.mp hb]; obtain ⟨n, ho⟩ := hl'; exact .inr ⟨nX, _, ho, .inl ⟨_, _, rfl⟩⟩
  · intro i v d hP hd
    obtain ⟨d', hd', r⟩ := hx'.get (i := i) (a := v) (by simpa using hP)
    rw [hd] at hd'; injection hd' with e; subst e; exact r
theorem ev_iter_range {n : Nat} (hA : A.handled = none) (hn : n < 2 ^ 60) (ra : RgR n X h a) : Ev prog w A X h (pyIter a) (ItR prog w A X h (fun i : Nat => IntR i) (List.range n)) := fun Y s al le => by
  obtain ⟨r, t, u, z, rfl, _, hr⟩ := ra
  have hr' : IsRange s.heap r 0 n 1 t u z := le.kp _ _ hr
  have hs : Builtin.Range.rangeSize 0 (n : Int) 1 = n := by
    unfold Builtin.Range.rangeSize; simp; omega
  have hsm : Builtin.Range.small 0 (n : Int) 1 = true := small_one (by omega) (by omega) (by omega) (by omega)
  refine wpAny_pyIter_range hr' hsm ⟨_, s.toks, rfl, kp_push _ _, s.heap.objs.size, [s.heap.objs.size], fun i v => ∃ t, v = .int ((0 : Int) + i * 1) t, fun i h => IsRangeIter h s.heap.objs.size ((0 : Int) + (i : Nat) * 1) ((n : Int) - (i : Nat)) 1, rfl, le.kp.none (get_size _), ?_, ?_, ?_, fun i h st => ⟨_, st⟩, ?_⟩
  · rw [List.length_range]; exact Walks.range hA _ 0 1 n
  · show (s.heap.push _).get? _ = _
    rw [get_push _ _ rfl]; simp [hs]
  · intro b hb; exact .inl (List.mem_singleton.mp hb)
  · rintro i v d ⟨t, rfl⟩ hd
    have : d = i := by
      have := List.getElem?_eq_some_iff.mp hd
      obtain ⟨h1, h2⟩ := this; simpa using h2.symm
    subst this; exact ⟨t, by simp⟩
theorem ev_iter_str {l : List Nat} (hA : A.handled = none) (ra : TxR false l X h a) : Ev prog w A X h (pyIter a) (ItR prog w A X h (fun c : Nat => TxR false [c]) l) := fun Y s al le => by
  obtain ⟨t, rfl⟩ := ra
  have items : ∀ i v d, SignAt ⟨l.toArray⟩ i v → l[i]? = some d → TxR false [d] X h v := by
    rintro i v d ⟨c, u, hc, rfl⟩ hd
    have : l[i]? = some c := by simpa using hc
    rw [this] at hd; injection hd with e; subst e
    exact ⟨u, by simp⟩
  cases ha : (⟨l.toArray⟩ : Str).cps.all (· < 128)
  · refine wpAny_pyIter_wide ha ⟨_, s.toks, rfl, kp_push _ _, s.heap.objs.size, [s.heap.objs.size], SignAt ⟨l.toArray⟩, fun i h => h.IsStrIter s.heap.objs.size "str_iterator" ⟨l.toArray⟩ t i, rfl, le.kp.none (get_size _), ?_, ⟨_, get_push _ _ rfl, rfl, rfl⟩, ?_, fun i h st => (let ⟨o, e, _⟩ := st; ⟨o, e⟩), items⟩
    · have := Walks.strWide (prog := prog) (w := w) hA s.heap.objs.size ⟨l.toArray⟩ t
      simpa using this
    · intro b hb; exact .inl (List.mem_singleton.mp hb)
  · refine wpAny_pyIter_ascii ha ⟨_, s.toks, rfl, kp_push _ _, s.heap.objs.size, [s.heap.objs.size], SignAt ⟨l.toArray⟩, fun i h => h.IsStrIter s.heap.objs.size "str_ascii_iterator" ⟨l.toArray⟩ t i, rfl, le.kp.none (get_size _), ?_, ⟨_, get_push _ _ rfl, rfl, rfl⟩, ?_, fun i h st => (let ⟨o, e, _⟩ := st; ⟨o, e⟩), items⟩
    · have := Walks.strAscii (prog := prog) (w := w) hA s.heap.objs.size ⟨l.toArray⟩ t
      simpa using this
    · intro b hb; exact .inl (List.mem_singleton.mp hb)
end
end Mine
end

section
namespace Mine
open PySem PySem.W PyProof.Rows PySem.Calls PySem.SeqAt

/-! a comprehension's own names -/
def cenvOf (scope : Scope) (cl : List (Str × Addr)) (C : Addr) (env : Env) : Env :=
  { scope := relabel scope env, locals := C, globals := env.globals, cells := cellsFrom (C + 1) scope.names cl, qual := env.qual, func := none, code := env.code, frame := env.frame, builtins := env.builtins }

inductive Tgt (scope : Scope) (cl : List (Str × Addr)) (env : Env) (x : Str) : Prop
  | loc (k : scope.names.lookup x = some .local) : Tgt scope cl env x
  | cel (k : (relabel scope env).names.lookup x = some .cell) (c1 : ∀ n, cellsFrom n scope.names [] = [(x, n)]) (c2 : ∀ n, (cellsFrom n scope.names cl).lookup x = some n) : Tgt scope cl env x

/-- where a turn may store: the comprehension's own table and cell -/
structure Own (scope : Scope) (cl : List (Str × Addr)) (env : Env) (x : Str) (C : Addr) (h : Heap) : Prop where
  ns : ∃ m, h.Ns C m
  cell : ∀ n, (∀ k, cellsFrom k scope.names [] = [(x, k)]) → n = C + 1 → ∃ v, h.IsCell n v
theorem Own.keep {scope : Scope} {cl : List (Str × Addr)} {env : Env} {x : Str} {C : Addr} {h h' : Heap} (o : Own scope cl env x C h) (k : ∀ b o, (b = C ∨ b = C + 1) → h.get? b = some o → h'.get? b = some o) : Own scope cl env x C h' := by
  obtain ⟨⟨m, o₁, es, ep, e, r⟩, c⟩ := o
  refine ⟨⟨m, o₁, es, ep, k _ _ (.inl rfl) e, r⟩, fun n hn e => ?_⟩
  obtain ⟨v, o, q, d⟩ := c n hn e
  exact ⟨v, o, k _ _ (.inr e) q, d⟩

section
variable {prog : Program} {w : World} {A : Around} {X : List Addr} {h : Heap} {env : Env} {pos : Pos}

theorem lx_but {Z : List Addr} {h h' : Heap} {a : Addr} {o : Obj} (e : h.get? a = some o) (hf : ¬ Fz o) (hs : Heap.SameBut a h h') (hl : ∃ o', h'.get? a = some o') : Lx Z h Z h' :=
  ⟨⟨fun b o' _ f q => (hs.2 b (by rintro rfl; rw [e] at q; injection q with q; subst q; exact hf f)).trans q, fun _ ha => .inl ha⟩, fun b o' q => by
    by_cases hb : b = a
    · subst hb; exact hl
    · exact ⟨o', (hs.2 b hb).trans q⟩⟩
theorem ns_notFz {h : Heap} {a : Addr} {m : Str → Option Value} (hn : h.Ns a m) : ∃ o, h.get? a = some o ∧ ¬ Fz o := by
  obtain ⟨o, es, ep, e, d, _⟩ := hn
  refine ⟨o, e, ?_⟩
  rintro (⟨xs, n, q⟩ | ⟨vs, q, _⟩)
  · rw [d] at q; cases q
  · rw [d] at q; cases q
theorem lx_ns {Z : List Addr} {h h' : Heap} {a : Addr} {m m' : Str → Option Value} (hn : h.Ns a m) (hs : Heap.SameBut a h h') (hn' : h'.Ns a m') : Lx Z h Z h' := by
  obtain ⟨o, e, f⟩ := ns_notFz hn
  obtain ⟨o', e', _⟩ := ns_notFz hn'
  exact lx_but e f hs ⟨o', e'⟩
theorem lx_cell {Z : List Addr} {h h' : Heap} {a : Addr} {v v' : Option Value} (hn : h.IsCell a v) (hs : Heap.SameBut a h h') (hn' : h'.IsCell a v') : Lx Z h Z h' := by
  obtain ⟨o, e, d⟩ := hn
  obtain ⟨o', e', _⟩ := hn'
  refine lx_but e ?_ hs ⟨o', e'⟩
  rintro (⟨xs, n, q⟩ | ⟨vs, q, _⟩)
  · rw [d] at q; cases q
  · rw [d] at q; cases q

theorem newCompEnv {M : Model} {s : Shared} {scope : Scope} {cl : List (Str × Addr)} {Q : Env → Shared → Prop} {E : Value → Shared → Prop} {x : Str}
    (hQ : ∀ h', Kp s.heap h' → Own scope cl env x s.heap.objs.size h' → Q { cenvOf scope cl s.heap.objs.size env with scope := scope } { s with heap := h' }) :
    wpAny M A (newFunctionEnv scope env.globals cl [] env.qual none .none (some env)) Q E s := by
  simp only [newFunctionEnv, Option.isSome_some, if_true]
  refine wpAny_bind (wpAny_alloc ?_)
  refine wpAny_bind (wpAny_layCells _ (fun name kind cells => by cases hkc : kind == NameKind.cell <;> simp) _ _ _ _ ?_)
  rw [show ({ s with heap := s.heap.push { cls := .type "dict", data := .dict #[] } } : Shared).heap.objs.size = s.heap.objs.size + 1 from Heap.size_push ..]
  rw [List.forIn_nil]
  refine wpAny_bind (wpAny_pure (wpAny_pure (hQ _ (fun b o e => pushCells_keeps _ _ _ _ (Heap.get?_push_of_some _ e)) ⟨⟨_, (Heap.Ns.new s.heap (.type "dict")).keeps (pushCells_keeps _ _)⟩, fun n hn e => ?_⟩)))
  have ok := cellsFrom_ok scope.names (s.heap.push { cls := .type "dict", data := .dict #[] }) 0 [] ⟨fun _ _ hm => (nomatch hm), List.Pairwise.nil⟩ (Nat.zero_le _)
  rw [Heap.size_push, hn] at ok
  subst e
  exact ⟨none, (ok.empty x _ (List.mem_singleton.mpr rfl)).1⟩

theorem store_tgt {M : Model} {s : Shared} {scope : Scope} {cl : List (Str × Addr)} {x : Str} {px : Pos} {C : Addr} {v : Value} {Q : Unit → Shared → Prop} {E : Value → Shared → Prop} (hk : scope.kind = .function) (T : Tgt scope cl env x) (O : Own scope cl env x C s.heap)
    (hQ : ∀ h' tk, (∀ b o, b ≠ C → b ≠ C + 1 → s.heap.get? b = some o → h'.get? b = some o) → (∀ Z, Lx Z s.heap Z h') → Own scope cl env x C h' → See (cenvOf scope cl C env) h' x v → Q () { s with heap := h', toks := tk }) :
    wpAny M A (assign (.Name x px) (cenvOf scope cl C env) v) Q E s := by
  obtain ⟨⟨m, hm⟩, hc⟩ := O
  cases T with
  | loc k =>
    have hl : (cenvOf scope cl C env).kindOf x = some .local := lookup_relabel_local k
    refine wpAny_assign_Name (wpAny_storeName_local hl hm (fun h' hn hs => hQ h' _ (fun b o b1 _ e => hs.extBut b o b1 e) (fun Z => lx_ns hm hs hn) ⟨⟨_, hn⟩, fun n hn' e => ?_⟩ (.loc hl hn (by simp))) (by simp [cenvOf, relabel, hk]))
    obtain ⟨u, o, q, d⟩ := hc n hn' e
    exact ⟨u, o, hs.extBut n o (by subst e; exact Nat.succ_ne_self C) q, d⟩
  | cel k c1 c2 =>
    have hl : (cenvOf scope cl C env).kindOf x = some .cell := k
    obtain ⟨u, hu⟩ := hc (C + 1) c1 rfl
    refine wpAny_assign_Name (wpAny_storeName_cell (c := C + 1) (by simp [cenvOf, relabel, hk]) hl (c2 (C + 1)) hu fun h' hv hs => hQ h' s.toks (fun b o _ b2 e => hs.extBut b o b2 e) (fun Z => lx_cell hu hs hv) ⟨⟨m, hm.sameBut hs (Nat.ne_of_lt (Nat.lt_succ_self C))⟩, fun n hn' e => ?_⟩ (.cell hl (c2 _) hv))
    subst e; exact ⟨_, hv⟩

abbrev tests (ifs : List Expr) (env : Env) : Sem Bool := forIn ifs true fun c r => if r = true then do let ok ← isTrue c env (eval c env); pure (ForInStep.yield ok) else pure (ForInStep.yield r)
theorem ev_tests_nil : Ev prog w A X h (tests [] env) (IsB true) := fun Y s al le => by
  unfold tests; rw [List.forIn_nil]; exact wpAny_pure ⟨_, _, rfl, Kp.refl _, rfl⟩
theorem ev_tests_one {c : Expr} {b : Bool} (hc : Ev prog w A X h (isTrue c env (eval c env)) (IsB b)) : Ev prog w A X h (tests [c] env) (IsB b) := fun Y s al le => by
  unfold tests
  rw [List.forIn_cons]
  simp only [if_true]
  refine wpAny_bind (wpAny_bind (hc.use al le fun v h' tk kp r => wpAny_pure ?_))
  simp only
  rw [List.forIn_nil]
  exact wpAny_pure ⟨h', tk, rfl, kp, r⟩

/-- the loop of a comprehension with one clause -/
theorem comp_loop {elt iter : Expr} {x : Str} {px : Pos} {ifs : List Expr} {scope : Scope} {cl : List (Str × Addr)} {α β : Type} {R : α → Pr} {S : β → Pr} {ds : List α} {C D I : Addr} {fp : List Addr} {P : Nat → Value → Prop} {St : Nat → Heap → Prop} {s : Shared} {Y : List Addr} {h₀ : Heap} {RR : Result → Shared → Prop}
    (p : α → Bool) (f : α → β) (hk : scope.kind = .function) (T : Tgt scope cl env x) (gR : ∀ d, GR (R d)) (gS : ∀ b, GR (S b)) (hsz : ds.length ≤ sizeLine)
    (W : Walks prog w A I fp [I] ds.length P St) (st : St 0 s.heap) (hfp : ∀ b ∈ fp, b = I ∨ (b ∉ Y ∧ ∃ o, h₀.get? b = some o ∧ Fz o)) (hlv : ∀ i h, St i h → ∃ o, h.get? I = some o) (hP : ∀ i v d, P i v → ds[i]? = some d → R d Y h₀ v)
    (al : Al Y h₀) (nI : h₀.get? I = none) (nD : h₀.get? D = none) (nC : h₀.get? C = none) (nC' : h₀.get? (C + 1) = none) (a1 : D ≠ I) (a2 : D ≠ C) (a3 : D ≠ C + 1) (a4 : I ≠ C) (a5 : I ≠ C + 1)
    (k0 : Kp h₀ s.heap) (O : Own scope cl env x C s.heap) (hD : s.heap.PlainList D #[])
    (htests : ∀ d ∈ ds, ∀ Z h' v, Le Y h₀ Z h' → Al Z h' → R d Z h' v → See (cenvOf scope cl C env) h' x v → Ev prog w A Z h' (tests ifs (cenvOf scope cl C env)) (IsB (p d)))
    (helt : ∀ d ∈ ds, p d = true → ∀ Z h' v, Le Y h₀ Z h' → Al Z h' → R d Z h' v → See (cenvOf scope cl C env) h' x v → Ev prog w A Z h' (eval elt (cenvOf scope cl C env)) (S (f d)))
    (hR : ∀ h' tk vs, Kp h₀ h' → Own scope cl env x C h' → h'.PlainList D vs.toArray → All2 (fun u d => S d Y h' u) vs ((ds.filter p).map f) → RR (.ok .next) { s with heap := h', toks := tk }) :
    codeAny (model prog w) A (.compLoop (.ListComp elt [⟨.Name x px, iter, ifs, 0⟩] scope pos) 0 (.ref I) (.ref D) (cenvOf scope cl C env)) RR s := by
  refine codeAny_compLoop_tests
    (fun k s' => ∃ i h' tk vs, s' = { s with heap := h', toks := tk } ∧ i ≤ ds.length ∧ k = ds.length + 1 - i ∧ St i h' ∧ Kp h₀ h' ∧ Own scope cl env x C h' ∧ h'.PlainList D vs.toArray ∧
      All2 (fun u d => S d (I :: D :: Y) h' u) vs (((ds.take i).filter p).map f)) ?_ (ds.length + 1)
    ⟨0, s.heap, s.toks, [], rfl, Nat.zero_le _, rfl, st, k0, O, hD, by simpa using All2.nil⟩
  rintro k s' ⟨i, H, tk, vs, rfl, hi, rfl, hst, hk0, hO, hL, hV⟩
  have off : ∀ b o, h₀.get? b = some o → b ≠ I ∧ b ≠ C ∧ b ≠ C + 1 ∧ b ≠ D := fun b o e =>
    ⟨fun q => absurd e (by rw [q, nI]; exact nofun), fun q => absurd e (by rw [q, nC]; exact nofun), fun q => absurd e (by rw [q, nC']; exact nofun), fun q => absurd e (by rw [q, nD]; exact nofun)⟩
  by_cases hlt : i < ds.length
  · refine W.item i _ _ _ hlt hst fun v h₁ tk₁ hPv hst₁ hk₁ => ?_
    have hk₁' : ∀ b o, b ≠ I → H.get? b = some o → h₁.get? b = some o := fun b o hb e => hk₁ b o (by simpa using hb) e
    have hd : ds[i]? = some ds[i] := List.getElem?_eq_getElem hlt
    have hmem : ds[i] ∈ ds := List.getElem_mem hlt
    have hO₁ : Own scope cl env x C h₁ := hO.keep fun b o hb e => hk₁' b o (by rcases hb with rfl | rfl; exact Ne.symm a4; exact Ne.symm a5) e
    have kp₁ : Kp h₀ h₁ := fun b o e => hk₁' b o (off b o e).1 (hk0 b o e)
    have lx₁ : Lw (I :: D :: Y) H (I :: D :: Y) h₁ := ⟨fun b o hb _ e => hk₁' b o (fun q => hb (by simp [q])) e, fun _ ha => .inl ha⟩
    refine store_tgt (s := { s with heap := h₁, toks := tk₁ }) hk T hO₁ fun h₂ tk₂ hk₂ lx₂ hO₂ hS₂ => ?_
    have kp₂ : Kp h₀ h₂ := fun b o e => hk₂ b o (off b o e).2.1 (off b o e).2.2.1 (kp₁ b o e)
    have hst₂ : St (i + 1) h₂ := W.frame _ _ _ hst₁ fun b hb o e => by
      rcases hfp b hb with rfl | ⟨_, o', q, _⟩
      · exact hk₂ b o a4 a5 e
      · exact hk₂ b o (off b o' q).2.1 (off b o' q).2.2.1 e
    have hL₁ : h₁.PlainList D vs.toArray := hL.at fun o e => hk₁' D o a1 e
    have hL₂ : h₂.PlainList D vs.toArray := hL₁.at fun o e => hk₂ D o a2 a3 e
    have alZ : Al (I :: D :: Y) h₂ := by
      obtain ⟨o, e⟩ := hlv _ _ hst₂
      obtain ⟨n, e2⟩ := hL₂
      exact ((al.up kp₂).cons e2).cons e
    have leZ : Le Y h₀ (I :: D :: Y) h₂ := ⟨kp₂, fun a ha => by
      rcases List.mem_cons.mp ha with rfl | ha
      · exact .inr nI
      · rcases List.mem_cons.mp ha with rfl | ha
        · exact .inr nD
        · exact .inl ha⟩
    have hrv : R ds[i] (I :: D :: Y) h₂ v := (gR _).up leZ.lw (hP i v _ hPv hd)
    refine (htests _ hmem (I :: D :: Y) h₂ v leZ alZ hrv hS₂).here (s := { s with heap := h₂, toks := tk₂ }) alZ fun ok h₃ tk₃ kp₃ hok => ?_
    obtain rfl := hok
    have leZ₃ := leZ.step kp₃
    have alZ₃ := alZ.up kp₃
    have hst₃ : St (i + 1) h₃ := W.frame _ _ _ hst₂ fun b _ o e => kp₃ b o e
    have hO₃ : Own scope cl env x C h₃ := hO₂.keep fun b o _ e => kp₃ b o e
    have hL₃ : h₃.PlainList D vs.toArray := hL₂.at fun o e => kp₃ D o e
    have hV₃ : All2 (fun u d => S d (I :: D :: Y) h₃ u) vs (((ds.take i).filter p).map f) := hV.imp fun u d _ _ r => (gS d).up (Le.of_kp kp₃).lw ((gS d).up (lx₂ _).lw ((gS d).up lx₁ r))
    have tk1 : ds.take (i + 1) = ds.take i ++ [ds[i]] := by rw [List.take_add_one, hd]; rfl
    cases hp : p ds[i] with
    | false =>
      simp only [Bool.false_eq_true, if_false]
      refine ⟨_, ?_, i + 1, h₃, tk₃, vs, rfl, hlt, rfl, hst₃, leZ₃.kp, hO₃, hL₃, ?_⟩
      · omega
      · rw [tk1, List.filter_append]; simpa [hp] using hV₃
    | true =>
      simp only [if_true]
      refine (helt _ hmem hp (I :: D :: Y) h₃ v leZ₃ alZ₃ ((gR _).up (Le.of_kp kp₃).lw hrv) (hS₂.up kp₃)).here (s := { s with heap := h₃, toks := tk₃ }) alZ₃ fun y h₄ tk₄ kp₄ hy => ?_
      have hys : vs.toArray.size ≤ sizeLine := by
        have e1 := hV.length
        have e2 : ((ds.take i).filter p).length ≤ (ds.take i).length := List.length_filter_le _ _
        rw [List.length_map] at e1
        rw [List.length_take] at e2
        simp only [List.size_toArray]; omega
      refine wpAny_list_append_plain (s := { s with heap := h₄, toks := tk₄ }) (hsz := hys) (hL₃.at fun o e => kp₄ _ o e) fun h₅ hl₅ hs₅ => ?_
      have lx₅ : Lw (I :: D :: Y) h₄ (I :: D :: Y) h₅ := ⟨fun b o hb _ e => hs₅.extBut b o (fun q => hb (by simp [q])) e, fun _ ha => .inl ha⟩
      refine ⟨_, ?_, i + 1, h₅, tk₄, vs ++ [y], rfl, hlt, rfl, ?_, fun b o e => hs₅.extBut b o (off b o e).2.2.2 (kp₄ b o (leZ₃.kp b o e)), ?_, by simpa using hl₅, ?_⟩
      · omega
      · refine W.frame _ _ h₅ hst₃ fun b hb o e => hs₅.extBut b o ?_ (kp₄ b o e)
        rcases hfp b hb with rfl | ⟨_, o', q, _⟩
        · exact Ne.symm a1
        · exact (off b o' q).2.2.2
      · exact hO₃.keep fun b o hb e => hs₅.extBut b o (by rcases hb with rfl | rfl; exact Ne.symm a2; exact Ne.symm a3) (kp₄ b o e)
      · have e : ((ds.take (i + 1)).filter p).map f = ((ds.take i).filter p).map f ++ [f ds[i]] := by rw [tk1, List.filter_append]; simp [hp]
        rw [e]
        exact (hV₃.imp fun u d _ _ r => (gS d).up lx₅ ((gS d).up (Le.of_kp kp₄).lw r)).snoc ((gS _).up lx₅ hy)
  · have hin : i = ds.length := by omega
    subst hin
    refine W.done _ _ _ hst fun h₁ tk₁ hk₁ => ?_
    have hk₁' : ∀ b o, b ≠ I → H.get? b = some o → h₁.get? b = some o := fun b o hb e => hk₁ b o (by simpa using hb) e
    have lw : Lw (I :: D :: Y) H Y h₁ := ⟨fun b o hb _ e => hk₁' b o (fun q => hb (by simp [q])) e, fun a ha => .inl (by simp [ha])⟩
    refine hR h₁ tk₁ vs (fun b o e => hk₁' b o (off b o e).1 (hk0 b o e)) (hO.keep fun b o hb e => hk₁' b o (by rcases hb with rfl | rfl; exact Ne.symm a4; exact Ne.symm a5) e) (hL.at fun o e => hk₁' D o a1 e) ?_
    rw [List.take_length] at hV
    exact hV.imp fun u d _ _ r => (gS d).up lw r
end
end Mine
end

section
namespace Mine
open PySem PySem.W PyProof.Rows PySem.Calls PySem.SeqAt

section
variable {prog : Program} {w : World} {A : Around} {X Y : List Addr} {h : Heap} {env : Env} {pos : Pos} {E : Value → Shared → Prop}

theorem comp_block {elt iter : Expr} {x : Str} {px : Pos} {ifs : List Expr} {scope : Scope} {cl : List (Str × Addr)} {α β : Type} {R : α → Pr} {S : β → Pr} {ds : List α} {s₂ : Shared} {h₁ : Heap} {it : Value} {RR : Value → Addr → Result → Shared → Prop}
    (p : α → Bool) (f : α → β) (hk : scope.kind = .function) (T : Tgt scope cl env x) (gR : ∀ d, GR (R d)) (gS : ∀ b, GR (S b)) (hsz : ds.length ≤ sizeLine)
    (al : Al Y h₁) (k₂ : Kp h₁ s₂.heap) (hI : ItR prog w A Y h₁ R ds Y s₂.heap it)
    (htests : ∀ d ∈ ds, ∀ Z h' v C, Le Y h₁ Z h' → Al Z h' → R d Z h' v → See (cenvOf scope cl C env) h' x v → Ev prog w A Z h' (tests ifs (cenvOf scope cl C env)) (IsB (p d)))
    (helt : ∀ d ∈ ds, p d = true → ∀ Z h' v C, Le Y h₁ Z h' → Al Z h' → R d Z h' v → See (cenvOf scope cl C env) h' x v → Ev prog w A Z h' (eval elt (cenvOf scope cl C env)) (S (f d)))
    (hR : ∀ D C h' tk m, h₁.get? D = none → h₁.get? C = none → Kp h₁ h' → h'.Ns C m → LsR S ((ds.filter p).map f) Y h' (.ref D) → RR (.ref D) C (.ok .next) { s₂ with heap := h', toks := tk }) :
    wpAny (model prog w) A (newList []) (fun acc s₃ => wpAny (model prog w) A (newFunctionEnv scope env.globals cl [] env.qual none .none (some env)) (fun cenv s₄ =>
      codeAny (model prog w) A (.compStart (.ListComp elt [⟨.Name x px, iter, ifs, 0⟩] scope pos) 0 it acc { cenv with scope := relabel scope env }) (RR acc cenv.locals) s₄) E s₃) E s₂ := by
  obtain ⟨I, fp, P, St, rfl, nI, W, st, hfp, hlv, hP⟩ := hI
  have ltI : I < s₂.heap.objs.size := by obtain ⟨o, e⟩ := hlv _ _ st; exact Heap.lt_size e
  refine wpAny_newObj_type (newCompEnv (x := x) (s := { s₂ with heap := s₂.heap.push { cls := .type "list", data := .seq ([] : List Value).toArray } }) fun h₄ kp₄ O₄ => ?_)
  have e1 : (s₂.heap.push { cls := .type "list", data := .seq ([] : List Value).toArray }).objs.size = s₂.heap.objs.size + 1 := Heap.size_push _ _
  dsimp only at kp₄ O₄ ⊢
  rw [e1] at O₄
  simp only [e1]
  have kp : Kp h₁ h₄ := (k₂.trans (kp_push _ _)).trans kp₄
  have kp2 : Kp s₂.heap h₄ := (kp_push _ _).trans kp₄
  have nD : h₁.get? s₂.heap.objs.size = none := k₂.none (get_size _)
  have nC : h₁.get? (s₂.heap.objs.size + 1) = none := k₂.none (get_ge (Nat.le_succ _))
  have nC' : h₁.get? (s₂.heap.objs.size + 1 + 1) = none := k₂.none (get_ge (Nat.le_succ_of_le (Nat.le_succ _)))
  have hD : h₄.PlainList s₂.heap.objs.size #[] := ⟨0, kp₄ _ _ (get_push _ _ rfl)⟩
  have loop : ∀ s₃ : Shared, s₃ = { s₂ with heap := h₄ } → codeAny (model prog w) A (.compLoop (.ListComp elt [⟨.Name x px, iter, ifs, 0⟩] scope pos) 0 (.ref I) (.ref s₂.heap.objs.size) (cenvOf scope cl (s₂.heap.objs.size + 1) env)) (RR (.ref s₂.heap.objs.size) (s₂.heap.objs.size + 1)) s₃ := by
    rintro s₃ rfl
    refine comp_loop (s := { s₂ with heap := h₄ }) (Y := Y) (h₀ := h₁) p f hk T gR gS hsz W (W.frame _ _ _ st fun b _ o e => kp2 b o e) hfp hlv hP al nI nD nC nC' (Nat.ne_of_gt ltI) (Nat.ne_of_lt (Nat.lt_succ_self _)) (Nat.ne_of_lt (Nat.lt_succ_of_lt (Nat.lt_succ_self _)))
      (Nat.ne_of_lt (Nat.lt_succ_of_lt ltI)) (Nat.ne_of_lt (Nat.lt_succ_of_lt (Nat.lt_succ_of_lt ltI))) kp O₄ hD (fun d hd Z h' v a b c e => htests d hd Z h' v _ a b c e) (fun d hd hp Z h' v a b c e => helt d hd hp Z h' v _ a b c e) fun h' tk vs kp' O' hl hV => ?_
    obtain ⟨m, hm⟩ := O'.ns
    refine hR _ _ h' tk m nD nC kp' hm ⟨_, vs, rfl, al.not nD, hl, hV⟩
  exact codeAny_compStart_list (loop _ rfl) (W.self 0 _ _ _ (W.frame _ _ _ st fun b _ o e => kp2 b o e) (loop _ rfl))

theorem ev_comp {elt iter : Expr} {x : Str} {px : Pos} {ifs : List Expr} {scope : Scope} {cl : List (Str × Addr)} {α β : Type} {R0 : Pr} {R : α → Pr} {S : β → Pr} {ds : List α}
    (p : α → Bool) (f : α → β) (hsrc : Ev prog w A X h (eval iter env) R0) (hit : ∀ Y h' v, Le X h Y h' → R0 Y h' v → Ev prog w A Y h' (pyIter v) (ItR prog w A Y h' R ds))
    (gR : ∀ d, GR (R d)) (gS : ∀ b, GR (S b)) (hsz : ds.length ≤ sizeLine) (hclos : closureFor scope env = pure cl) (T : Tgt scope cl env x)
    (htests : ∀ d ∈ ds, ∀ Z h' v C, Le X h Z h' → Al Z h' → R d Z h' v → See (cenvOf scope cl C env) h' x v → Ev prog w A Z h' (tests ifs (cenvOf scope cl C env)) (IsB (p d)))
    (helt : ∀ d ∈ ds, p d = true → ∀ Z h' v C, Le X h Z h' → Al Z h' → R d Z h' v → See (cenvOf scope cl C env) h' x v → Ev prog w A Z h' (eval elt (cenvOf scope cl C env)) (S (f d)))
    (hk : scope.kind = .function) (hnames : ∀ x ∈ scope.names, x.2 = .local → scope.names.lookup x.1 = some .local) (hs : ∀ x, foldedSetIterable iter env x = pure x) :
    Ev prog w A X h (eval (.ListComp elt [⟨.Name x px, iter, ifs, 0⟩] scope pos) env) (LsR S ((ds.filter p).map f)) := fun Y s al le => by
  rw [eval_ListComp]
  refine wpAny_comprehension_free (use := none) rfl hs hclos hk hnames (hsrc.use al le fun xv h₁ t₁ k₁ r0 => (hit Y h₁ xv (le.step k₁) r0).here (s := { s with heap := h₁, toks := t₁ }) (al.up k₁) fun it h₂ t₂ k₂ hI => ?_)
  refine comp_block (s₂ := { s with heap := h₂, toks := t₂ }) (RR := fun acc C => compPost (model prog w) A _ none _ acc C) p f hk T gR gS hsz (al.up k₁) k₂ hI (fun d hd Z h' v C l a b c => htests d hd Z h' v C ((le.step k₁).trans l) a b c) (fun d hd hp Z h' v C l a b c => helt d hd hp Z h' v C ((le.step k₁).trans l) a b c) ?_
  intro D C h' tk m nD nC kp hm hl
  refine ⟨m, hm, fun h'' hs'' => ⟨h'', tk, rfl, k₁.trans (fun b o e => hs''.extBut b o (by rintro rfl; rw [nC] at e; cases e) (kp b o e)), ?_⟩⟩
  refine (gr_ls gS _).up ⟨fun b o _ f e => hs''.extBut b o ?_ e, fun _ ha => .inl ha⟩ hl
  rintro rfl
  obtain ⟨o', e', f'⟩ := ns_notFz hm
  rw [e'] at e; injection e with e; subst e; exact f' f
end

section
variable {prog : Program} {w : World} {A : Around} {X Y : List Addr} {h : Heap} {env : Env} {pos : Pos}
theorem ev_compO {elt iter : Expr} {x : Str} {px : Pos} {ifs : List Expr} {scope : Scope} {cl : List (Str × Addr)} {α β : Type} {R0 : Pr} {R : α → Pr} {S : β → Pr} {ds : List α} {out : List β}
    (p : α → Bool) (f : α → β) (hout : (ds.filter p).map f = out) (hsrc : Ev prog w A X h (eval iter env) R0) (hit : ∀ Y h' v, Le X h Y h' → R0 Y h' v → Ev prog w A Y h' (pyIter v) (ItR prog w A Y h' R ds))
    (gR : ∀ d, GR (R d)) (gS : ∀ b, GR (S b)) (hsz : ds.length ≤ sizeLine) (hclos : closureFor scope env = pure cl) (T : Tgt scope cl env x)
    (htests : ∀ d ∈ ds, ∀ Z h' v C, Le X h Z h' → Al Z h' → R d Z h' v → See (cenvOf scope cl C env) h' x v → Ev prog w A Z h' (tests ifs (cenvOf scope cl C env)) (IsB (p d)))
    (helt : ∀ d ∈ ds, p d = true → ∀ Z h' v C, Le X h Z h' → Al Z h' → R d Z h' v → See (cenvOf scope cl C env) h' x v → Ev prog w A Z h' (eval elt (cenvOf scope cl C env)) (S (f d)))
    (hk : scope.kind = .function) (hnames : ∀ x ∈ scope.names, x.2 = .local → scope.names.lookup x.1 = some .local) (hs : ∀ x, foldedSetIterable iter env x = pure x) :
    Ev prog w A X h (eval (.ListComp elt [⟨.Name x px, iter, ifs, 0⟩] scope pos) env) (LsR S out) := by
  subst hout; exact ev_comp p f hsrc hit gR gS hsz hclos T htests helt hk hnames hs
end

/-! frames -/
/-- what stood is kept; of the frames Fs the slots may turn -/
def Kf (Fs : List Addr) (h h' : Heap) : Prop := ∀ b o, h.get? b = some o → h'.get? b = some o ∨ (b ∈ Fs ∧ ∃ sl, h'.get? b = some { o with slots := sl })
theorem Kp.kf {Fs : List Addr} {h h' : Heap} (k : Kp h h') : Kf Fs h h' := fun b o e => .inl (k b o e)
theorem Kf.kp {h h' : Heap} (k : Kf [] h h') : Kp h h' := fun b o e => (k b o e).elim id fun q => absurd q.1 (by simp)
theorem Kf.step {Fs : List Addr} {h h' h'' : Heap} (k : Kf Fs h h') (f : ∀ b o, (∃ o₀, h.get? b = some o₀) → h'.get? b = some o → h''.get? b = some o) : Kf Fs h h'' := fun b o e => by
  rcases k b o e with q | ⟨hb, sl, q⟩
  · exact .inl (f b o ⟨o, e⟩ q)
  · exact .inr ⟨hb, sl, f b _ ⟨o, e⟩ q⟩
theorem Kf.live {Fs : List Addr} {h h' : Heap} (k : Kf Fs h h') {b : Addr} {o : Obj} (e : h.get? b = some o) : ∃ o', h'.get? b = some o' := by
  rcases k b o e with q | ⟨_, sl, q⟩
  · exact ⟨_, q⟩
  · exact ⟨_, q⟩
theorem Kf.off {Fs : List Addr} {h h' : Heap} (k : Kf Fs h h') {b : Addr} (e : h'.get? b = none) : h.get? b = none := by
  cases q : h.get? b with
  | none => rfl
  | some o => obtain ⟨o', e'⟩ := k.live q; rw [e] at e'; cases e'
structure FS (Fs : List Addr) (h₀ : Heap) (env : Env) (h : Heap) (m cm : Str → Option Value) : Prop where
  ns : h.Ns env.locals m
  base : Kf Fs h₀ h
  above : h₀.objs.size ≤ env.locals
  cl : Cl env.locals env.cells h cm
def upd (m : Str → Option Value) (x : Str) (v : Value) : Str → Option Value := fun y => if y = x then some v else m y
theorem FS.kp {Fs : List Addr} {h₀ : Heap} {env : Env} {h h' : Heap} {m cm : Str → Option Value} (F : FS Fs h₀ env h m cm) (k : Kp h h') : FS Fs h₀ env h' m cm := ⟨F.ns.keeps k, F.base.step fun b o _ e => k b o e, F.above, F.cl.keeps k⟩
theorem FS.kept {h₀ : Heap} {env : Env} {h : Heap} {m cm : Str → Option Value} (F : FS [] h₀ env h m cm) : Kp h₀ h := F.base.kp
theorem FS.notL {Fs : List Addr} {h₀ : Heap} {env : Env} {h : Heap} {m cm : Str → Option Value} (F : FS Fs h₀ env h m cm) {b : Addr} {o : Obj} (e : h₀.get? b = some o) : b ≠ env.locals := Nat.ne_of_lt (Nat.lt_of_lt_of_le (Heap.lt_size e) F.above)
theorem FS.notC {Fs : List Addr} {h₀ : Heap} {env : Env} {h : Heap} {m cm : Str → Option Value} (F : FS Fs h₀ env h m cm) {b : Addr} {o : Obj} (e : h₀.get? b = some o) {n : Str} {c : Addr} (hc : env.cells.lookup n = some c) : b ≠ c :=
  Nat.ne_of_lt (Nat.lt_trans (Nat.lt_of_lt_of_le (Heap.lt_size e) F.above) (F.cl.above n c (mem_of_lookup hc)))

section
variable {prog : Program} {w : World} {M : Model} {A : Around} {Fs X : List Addr} {h₀ : Heap} {env : Env} {E : Value → Shared → Prop} {s : Shared} {m cm : Str → Option Value} {x : Str} {v : Value}

/-- what a statement may change: the lists M that are still being made, the frame's table, its cells; of the frames Fs the slots -/
structure Sx (Fs M : List Addr) (env : Env) (h h' : Heap) : Prop where
  keep : ∀ b o, b ∉ M → Fz o → h.get? b = some o → h'.get? b = some o
  live : ∀ b o, h.get? b = some o → ∃ o', h'.get? b = some o'
  ef : ∀ b o, b ∉ M → b ≠ env.locals → (∀ n, env.cells.lookup n ≠ some b) → h.get? b = some o → h'.get? b = some o ∨ (b ∈ Fs ∧ ∃ sl, h'.get? b = some { o with slots := sl })
theorem Sx.of_kp {Fs M : List Addr} {env : Env} {h h' : Heap} (k : Kp h h') : Sx Fs M env h h' := ⟨fun b o _ _ e => k b o e, fun b o e => ⟨o, k b o e⟩, fun b o _ _ _ e => .inl (k b o e)⟩
theorem Sx.refl {Fs M : List Addr} {env : Env} {h : Heap} : Sx Fs M env h h := .of_kp (Kp.refl h)
theorem Sx.trans {Fs M : List Addr} {env : Env} {h h' h'' : Heap} (a : Sx Fs M env h h') (b : Sx Fs M env h' h'') : Sx Fs M env h h'' := by
  refine ⟨fun x o hx f e => b.keep x o hx f (a.keep x o hx f e), fun x o e => let ⟨o', e'⟩ := a.live x o e; b.live x o' e', fun x o h1 h2 h3 e => ?_⟩
  rcases a.ef x o h1 h2 h3 e with q | ⟨hf, sl, q⟩
  · exact b.ef x o h1 h2 h3 q
  · rcases b.ef x _ h1 h2 h3 q with q' | ⟨_, sl', q'⟩
    · exact .inr ⟨hf, sl, q'⟩
    · exact .inr ⟨hf, sl', q'⟩
theorem Sx.up {Fs M Z : List Addr} {env : Env} {h h' : Heap} (a : Sx Fs M env h h') (s : ∀ x ∈ M, x ∈ Z) : Lw Z h Z h' := ⟨fun b o hb f e => a.keep b o (fun q => hb (s b q)) f e, fun _ ha => .inl ha⟩
theorem Sx.mono {Fs M Z : List Addr} {env : Env} {h h' : Heap} (a : Sx Fs M env h h') (s : ∀ x ∈ M, x ∈ Z) : Sx Fs Z env h h' := ⟨fun b o hb => a.keep b o fun q => hb (s b q), a.live, fun b o hb => a.ef b o fun q => hb (s b q)⟩
theorem Sx.al {Fs M : List Addr} {env : Env} {h h' : Heap} (a : Sx Fs M env h h') {Z : List Addr} (z : Al Z h) : Al Z h' := fun x hx => let ⟨o, e⟩ := z x hx; a.live x o e
theorem Sx.ef0 {M : List Addr} {env : Env} {h h' : Heap} (a : Sx [] M env h h') {b : Addr} {o : Obj} (h1 : b ∉ M) (h2 : b ≠ env.locals) (h3 : ∀ n, env.cells.lookup n ≠ some b) (e : h.get? b = some o) : h'.get? b = some o := (a.ef b o h1 h2 h3 e).elim id fun q => absurd q.1 (by simp)

inductive StN (env : Env) (x : Str) (v : Value) (m cm : Str → Option Value) : (Str → Option Value) → (Str → Option Value) → Prop
  | loc (k : env.kindOf x = some .local) : StN env x v m cm (upd m x v) cm
  | cel {c : Addr} (k : env.kindOf x = some .cell) (n : env.cells.lookup x = some c) : StN env x v m cm m (upd cm x v)

variable {m' cm' : Str → Option Value}
theorem st_name {Q : Unit → Shared → Prop} (F : FS Fs h₀ env s.heap m cm) (S : StN env x v m cm m' cm') (hk : env.scope.kind = .function)
    (k : ∀ h' tk, FS Fs h₀ env h' m' cm' → (∀ Z, Sx [] Z env s.heap h') → Q () { s with heap := h', toks := tk }) : wpAny M A (storeName env x v) Q E s := by
  cases S with
  | loc hl =>
    refine wpAny_storeName_local hl F.ns (fun h' hn hs => k h' _ ⟨hn, F.base.step fun b o ⟨o₀, e₀⟩ e => hs.extBut b o (F.notL e₀) e, F.above, F.cl.sameBut hs (Nat.le_refl _)⟩ fun Z => ?_) (by rw [hk]; rfl)
    have lx : Lx Z s.heap Z h' := lx_ns F.ns hs hn
    exact ⟨fun b o hb f e => (lx_ns (Z := []) F.ns hs hn).keep b o (by simp) f e, lx.live, fun b o _ hb _ e => .inl (hs.extBut b o hb e)⟩
  | @cel c hl hc =>
    have hLc : env.locals < c := F.cl.above x c (mem_of_lookup hc)
    refine wpAny_storeName_cell hk hl hc (F.cl.cell x c hc) fun h' hv hs => k h' s.toks ⟨F.ns.sameBut hs (Nat.ne_of_lt hLc), F.base.step fun b o ⟨o₀, e₀⟩ e => hs.extBut b o (F.notC e₀ hc) e, F.above,
      ⟨fun n c' e => ?_, F.cl.apart, F.cl.above⟩⟩ fun Z => ⟨fun b o hb f e => (lx_cell (Z := []) (F.cl.cell x c hc) hs hv).keep b o (by simp) f e, (lx_cell (Z := Z) (F.cl.cell x c hc) hs hv).live, fun b o _ _ hb e => .inl (hs.extBut b o (fun q => hb x (q ▸ hc)) e)⟩
    by_cases hn : n = x
    · subst hn; rw [hc] at e; cases e; simpa [upd] using hv
    · have hcc : c' ≠ c := fun q => hn (name_of_addr F.cl.apart (mem_of_lookup e) (q ▸ mem_of_lookup hc))
      simpa [upd, hn] using (F.cl.cell n c' e).sameBut hs hcc
theorem Sx.fs {M : List Addr} {h h' : Heap} (a : Sx [] M env h h') : Sx Fs M env h h' := ⟨a.keep, a.live, fun b o h1 h2 h3 e => (a.ef b o h1 h2 h3 e).elim .inl fun q => absurd q.1 (by simp)⟩
theorem Sx.nil {M : List Addr} {h h' : Heap} (a : Sx Fs [] env h h') : Sx Fs M env h h' := a.mono (by simp)

/-- x = e -/
theorem as_name {px pos : Pos} {e : Expr} {R : Pr} {Q : Flow → Shared → Prop} {mm cc : Value → Str → Option Value} (F : FS Fs h₀ env s.heap m cm) (al : Al X s.heap) (he : Ev prog w A X s.heap (eval e env) R) (g : GR R)
    (S : ∀ v, StN env x v m cm (mm v) (cc v)) (hk : env.scope.kind = .function) (hs : swapsWith e (some (.Name x px)) pos.line env = pure false)
    (k : ∀ v h' tk, FS Fs h₀ env h' (mm v) (cc v) → Sx [] [] env s.heap h' → Al X h' → R X h' v → Q .next { s with heap := h', toks := tk }) :
    wpAny (model prog w) A (exec (.Assign [.Name x px] e pos) env) Q E s :=
  wpAny_Assign_Name (he.here al fun v h₁ t₁ k₁ r => st_name (s := { s with heap := h₁, toks := t₁ }) (F.kp k₁) (S v) hk fun h' tk F' sx =>
    k v h' tk F' ((Sx.of_kp k₁).trans (sx [])) ((sx X).al (al.up k₁)) (g.up ((sx X).up fun _ h => h) r)) hs

/-- x = [.. for ..], for a local x: the store comes before the comprehension's own names go -/
theorem as_comp {px pos spos : Pos} {elt iter : Expr} {y : Str} {py : Pos} {ifs : List Expr} {scope : Scope} {cl : List (Str × Addr)} {α β : Type} {R0 : Pr} {R : α → Pr} {S : β → Pr} {ds : List α} {Q : Flow → Shared → Prop}
    (F : FS Fs h₀ env s.heap m cm) (al : Al X s.heap) (p : α → Bool) (f : α → β) (hsrc : Ev prog w A X s.heap (eval iter env) R0) (hit : ∀ Y h' v, Le X s.heap Y h' → R0 Y h' v → Ev prog w A Y h' (pyIter v) (ItR prog w A Y h' R ds))
    (gR : ∀ d, GR (R d)) (gS : ∀ b, GR (S b)) (hsz : ds.length ≤ sizeLine) (hclos : closureFor scope env = pure cl) (T : Tgt scope cl env y)
    (htests : ∀ d ∈ ds, ∀ Z h' v C, Le X s.heap Z h' → Al Z h' → R d Z h' v → See (cenvOf scope cl C env) h' y v → Ev prog w A Z h' (tests ifs (cenvOf scope cl C env)) (IsB (p d)))
    (helt : ∀ d ∈ ds, p d = true → ∀ Z h' v C, Le X s.heap Z h' → Al Z h' → R d Z h' v → See (cenvOf scope cl C env) h' y v → Ev prog w A Z h' (eval elt (cenvOf scope cl C env)) (S (f d)))
    (hk' : scope.kind = .function) (hnames : ∀ x ∈ scope.names, x.2 = .local → scope.names.lookup x.1 = some .local) (hsf : ∀ x, foldedSetIterable iter env x = pure x)
    (hl : env.kindOf x = some .local) (hk : env.scope.kind = .function) (hs : swapsWith (.ListComp elt [⟨.Name y py, iter, ifs, 0⟩] scope pos) (some (.Name x px)) spos.line env = pure true)
    (k : ∀ v h' tk, FS Fs h₀ env h' (upd m x v) cm → Sx [] [] env s.heap h' → Al X h' → LsR S ((ds.filter p).map f) X h' v → Q .next { s with heap := h', toks := tk }) :
    wpAny (model prog w) A (exec (.Assign [.Name x px] (.ListComp elt [⟨.Name y py, iter, ifs, 0⟩] scope pos) spos) env) Q E s := by
  rw [exec_Assign_Name_used _ _ _ _ hs]
  refine wpAny_bind (wpAny_standAt (wpAny_bind ?_))
  show wpAny _ A (do let _ ← comprehension (.ListComp elt [⟨.Name y py, iter, ifs, 0⟩] scope pos) scope env _ (newList []) false (eval iter env) (some (assign (.Name x px) env))) _ _ s
  refine wpAny_bind (wpAny_mono (wpAny_comprehension_free (use := some (assign (.Name x px) env)) (Q := fun _ s' => Q .next s') rfl hsf hclos hk' hnames
    (hsrc.here al fun xv h₁ t₁ k₁ r0 => (hit X h₁ xv (Le.of_kp k₁) r0).here (s := { s with heap := h₁, toks := t₁ }) (al.up k₁) fun it h₂ t₂ k₂ hI => ?_)) (fun _ s' hq => wpAny_pure (wpAny_pure hq)) fun _ _ e => e)
  refine comp_block (s₂ := { s with heap := h₂, toks := t₂ }) (RR := fun acc C => compPost (model prog w) A _ (some (assign (.Name x px) env)) (fun _ s' => Q .next s') acc C) p f hk' T gR gS hsz (al.up k₁) k₂ hI (fun d hd Z h' v C l a b c => htests d hd Z h' v C ((Le.of_kp k₁).trans l) a b c) (fun d hd hp Z h' v C l a b c => helt d hd hp Z h' v C ((Le.of_kp k₁).trans l) a b c) ?_
  intro D C h' tk mC nD nC kp hm hls
  have kp' : Kp s.heap h' := k₁.trans kp
  show wpAny _ A (assign (.Name x px) env (.ref D)) _ _ _
  have F' := F.kp kp'
  have aliveC : ∀ b o, s.heap.get? b = some o → b ≠ C := fun b o e q => by rw [q] at e; rw [k₁ _ _ e] at nC; cases nC
  have hLC : env.locals ≠ C := by obtain ⟨o, _, _, ho, _⟩ := F.ns; exact aliveC _ _ ho
  refine wpAny_assign_Name (wpAny_storeName_local (s := { s with heap := h', toks := tk }) hl F'.ns (fun h₃ hn₃ hs₃ => ?_) (by rw [hk]; rfl))
  have lx₃ : ∀ Z, Lx Z h' Z h₃ := fun Z => lx_ns F'.ns hs₃ hn₃
  have hm₃ : h₃.Ns C mC := hm.sameBut hs₃ (Ne.symm hLC)
  refine ⟨mC, hm₃, fun h₄ hs₄ => ?_⟩
  have kb₄ : ∀ b o, b ≠ C → h₃.get? b = some o → h₄.get? b = some o := fun b o hb e => hs₄.extBut b o hb e
  have sx : Sx [] [] env s.heap h₄ := ⟨fun b o hb hf e => kb₄ b o (aliveC b o e) ((lx₃ []).keep b o hb hf (kp' b o e)), fun b o e => by
    obtain ⟨o', e'⟩ := (lx₃ []).live b o (kp' b o e)
    exact ⟨o', kb₄ b o' (aliveC b o e) e'⟩, fun b o h1 h2 h3 e => .inl (kb₄ b o (aliveC b o e) (hs₃.extBut b o h2 (kp' b o e)))⟩
  have F₄ : FS Fs h₀ env h₄ (upd m x (.ref D)) cm := by
    refine ⟨hn₃.at' fun o e => kb₄ _ o hLC e, fun b o e => ?_, F.above, ⟨fun n c e => ?_, F.cl.apart, F.cl.above⟩⟩
    · rcases F.base b o e with q | ⟨hb, sl, q⟩
      · exact .inl (kb₄ b o (aliveC b o q) (hs₃.extBut b o (F.notL e) (kp' b o q)))
      · exact .inr ⟨hb, sl, kb₄ b _ (aliveC b _ q) (hs₃.extBut b _ (F.notL e) (kp' b _ q))⟩
    · obtain ⟨o, ho, hd⟩ := F.cl.cell n c e
      exact ⟨o, kb₄ c o (aliveC c o ho) (hs₃.extBut c o (Nat.ne_of_gt (F.cl.above n c (mem_of_lookup e))) (kp' c o ho)), hd⟩
  refine k _ h₄ _ F₄ sx (sx.al al) ?_
  refine (gr_ls gS _).up ⟨fun b o hb hf e => kb₄ b o ?_ e, fun _ ha => .inl ha⟩ ((gr_ls gS _).up (lx₃ X).lw hls)
  rintro rfl
  obtain ⟨oC, eC, fC⟩ := ns_notFz hm₃
  rw [eC] at e; injection e with e; subst e; exact fC hf
end
end Mine
end

section
namespace Mine
open PySem PySem.W PyProof.Rows PySem.Calls PySem.SeqAt

section
variable {prog : Program} {w : World} {A : Around} {X : List Addr} {h : Heap} {env : Env} {pos : Pos}

/-! calls -/
theorem ev_callB {x : Str} {np : Pos} {id : String} {e : Expr} {rest : List Expr} {Rs : List Pr} {R : Pr} (S : See env h x (.builtin id)) (ha : Ev prog w A X h (spliced (backTo pos (starEach (e :: rest) env))) (Ls2 Rs))
    (hc : ∀ Y h' vs, Le X h Y h' → Ls2 Rs Y h' vs → Ev prog w A Y h' (call (.builtin id) vs) R) (hk : env.scope.kind = .function) (hd : (x == ("__debug__" : Str)) = false)
    (he : starEach (e :: rest) env = (false, eval e env) :: starEach rest env) (hp : (backTo pos (starEach rest env)).any (·.1) = false) :
    Ev prog w A X h (eval (.Call (.Name x np) (e :: rest) [] pos) env) R := fun Y s al le =>
  Call_ (see_load (S.up le.kp) hk hd (callWith_builtin1 (ha.use al le fun vs h₁ t₁ k₁ r => (hc Y h₁ vs (le.step k₁) r).here (s := { s with heap := h₁, toks := t₁ }) (al.up k₁) fun v h₂ t₂ k₂ r₂ => ⟨h₂, t₂, rfl, k₁.trans k₂, r₂⟩) he hp))
theorem ev_callT {x : Str} {np : Pos} {T : String} {e : Expr} {rest : List Expr} {Rs : List Pr} {R : Pr} (S : See env h x (.type T)) (ha : Ev prog w A X h (spliced (backTo pos (starEach (e :: rest) env))) (Ls2 Rs))
    (hc : ∀ Y h' vs, Le X h Y h' → Ls2 Rs Y h' vs → Ev prog w A Y h' (call (.type T) vs) R) (hk : env.scope.kind = .function) (hd : (x == ("__debug__" : Str)) = false)
    (he : starEach (e :: rest) env = (false, eval e env) :: starEach rest env) (hp : (backTo pos (starEach rest env)).any (·.1) = false) :
    Ev prog w A X h (eval (.Call (.Name x np) (e :: rest) [] pos) env) R := fun Y s al le =>
  Call_ (see_load (S.up le.kp) hk hd (PyProof.Rows.callWith_type1 (ha.use al le fun vs h₁ t₁ k₁ r => (hc Y h₁ vs (le.step k₁) r).here (s := { s with heap := h₁, toks := t₁ }) (al.up k₁) fun v h₂ t₂ k₂ r₂ => ⟨h₂, t₂, rfl, k₁.trans k₂, r₂⟩) he hp))
theorem ev_callF {x : Str} {np : Pos} {f : Addr} {o : Obj} {fd : FuncData} {e : Expr} {rest : List Expr} {Rs : List Pr} {R : Pr} (S : See env h x (.ref f)) (ho : h.get? f = some o) (hdat : o.data = .func fd) (ha : Ev prog w A X h (spliced (backTo pos (starEach (e :: rest) env))) (Ls2 Rs))
    (hc : ∀ Y h' vs, Le X h Y h' → Ls2 Rs Y h' vs → Ev prog w A Y h' (call (.ref f) vs) R) (hk : env.scope.kind = .function) (hd : (x == ("__debug__" : Str)) = false)
    (he : starEach (e :: rest) env = (false, eval e env) :: starEach rest env) :
    Ev prog w A X h (eval (.Call (.Name x np) (e :: rest) [] pos) env) R := fun Y s al le =>
  Call_ (see_load (S.up le.kp) hk hd (callWith_def hdat (ha.use al le fun vs h₁ t₁ k₁ r => ⟨k₁ _ _ (le.kp _ _ ho), (hc Y h₁ vs (le.step k₁) r).here (s := { s with heap := h₁, toks := t₁ }) (al.up k₁) fun v h₂ t₂ k₂ r₂ => ⟨h₂, t₂, rfl, k₁.trans k₂, r₂⟩⟩) he))

/-! methods -/
def Recv (T : String) (h : Heap) (v : Value) : Prop := (∀ s : Shared, s.heap = h → s.TypeIs v T) ∧ ∀ a, v = .ref a → ∃ ob, h.get? a = some ob ∧ ob.dict = none
theorem recv_str {l : List Nat} {v : Value} (r : TxR false l X h v) : Recv "str" h v := by
  obtain ⟨t, rfl⟩ := r; exact ⟨fun s _ => typeIs_str s _ t, fun a e => nomatch e⟩
theorem recv_bytes {l : List Nat} {v : Value} (r : TxR true l X h v) : Recv "bytes" h v := by
  obtain ⟨b, t, rfl, _⟩ := r; exact ⟨fun s _ => typeIs_bytes s b t, fun a e => nomatch e⟩
theorem recv_plain {a : Addr} {its : Array Value} (r : h.PlainList a its) : Recv "list" h (.ref a) := by
  obtain ⟨n, e⟩ := r
  exact ⟨fun s q => ⟨_, q ▸ e, rfl⟩, fun b q => by injection q with q; subst q; exact ⟨_, e, rfl⟩⟩
theorem recv_list {α : Type} {R : α → Pr} {ds : List α} {v : Value} (r : LsR R ds X h v) : Recv "list" h v := by
  obtain ⟨a, vs, rfl, _, hl, _⟩ := r; exact recv_plain hl

theorem ev_meth1 {o : Expr} {name : Str} {apos : Pos} {e : Expr} {T id : String} {Ro Re R : Pr} (ho : Ev prog w A X h (eval o env) Ro) (g : GR Ro) (he : Ev prog w A X h (eval e env) Re)
    (hr : ∀ Y h' v, Ro Y h' v → Recv T h' v) (pa : PlainAttrs T) (slot : Slot T name id) (hty : typeOf (.builtin id) = pure (.type "method_descriptor"))
    (hc : ∀ Y h' u v, Le X h Y h' → Ro Y h' u → Re Y h' v → Ev prog w A Y h' (call (.builtin id) [u, v]) R)
    (hbase : attributeBase o name env (eval o env) = eval o env) (hs : starEach [e] env = [(false, eval e env)]) (hline : (apos.endLine == pos.line) = true) :
    Ev prog w A X h (eval (.Call (.Attribute o name apos) [e] [] pos) env) R := fun Y s al le =>
  Call_method1 hbase hs hline (ho.use al le fun u h₁ t₁ k₁ r => ⟨T, id, pa, slot, hty, (hr Y h₁ u r).1 _ rfl, (hr Y h₁ u r).2,
    callWith_builtin rfl (evalArgs_plain (spliced_cons (he.use (s := { s with heap := h₁, toks := t₁ }) (al.up k₁) (le.step k₁) fun v h₂ t₂ k₂ r₂ => spliced_nil
      ((hc Y h₂ u v ((le.step k₁).step k₂) (g.up (Le.of_kp k₂).lw r) r₂).here (s := { s with heap := h₂, toks := t₂ }) ((al.up k₁).up k₂) fun z h₃ t₃ k₃ r₃ => ⟨h₃, t₃, rfl, (k₁.trans k₂).trans k₃, r₃⟩))))⟩)
theorem ev_meth0 {o : Expr} {name : Str} {apos : Pos} {T id : String} {Ro R : Pr} (ho : Ev prog w A X h (eval o env) Ro)
    (hr : ∀ Y h' v, Ro Y h' v → Recv T h' v) (pa : PlainAttrs T) (slot : Slot T name id) (hty : typeOf (.builtin id) = pure (.type "method_descriptor"))
    (hc : ∀ Y h' u, Le X h Y h' → Ro Y h' u → Ev prog w A Y h' (call (.builtin id) [u]) R)
    (hbase : attributeBase o name env (eval o env) = eval o env) (hline : (apos.endLine == pos.line) = true) :
    Ev prog w A X h (eval (.Call (.Attribute o name apos) [] [] pos) env) R := fun Y s al le =>
  Call_method0 hbase hline (ho.use al le fun u h₁ t₁ k₁ r => ⟨T, id, pa, slot, hty, (hr Y h₁ u r).1 _ rfl, (hr Y h₁ u r).2,
    callWith_builtin (args := []) rfl (PyProof.Rows.evalArgs_none (by
      refine (hc Y h₁ u (le.step k₁) r).here (s := { s with heap := h₁, toks := t₁ }) (al.up k₁) fun z h₃ t₃ k₃ r₃ => ⟨h₃, t₃, rfl, k₁.trans k₃, r₃⟩))⟩)

/-! built-ins -/
theorem b_len {α : Type} {R : α → Pr} {ds : List α} {a : Value} (g : ∀ d, GR (R d)) (ra : LsR R ds X h a) (hsz : ds.length ≤ sizeLine) : Ev prog w A X h (call (.builtin "len") [a]) (IntR ds.length) := fun Y s al le => by
  obtain ⟨l, vs, rfl, _, hl, hx⟩ := (gr_ls g ds).up le.lw ra
  have e := hx.length
  rw [sizeLine_eq] at hsz
  refine call_len_list hl.isList (by simp; omega) ⟨_, _, rfl, Kp.refl _, s.toks + 1, by simp [e]⟩
theorem b_slen {l : List Nat} {a : Value} (ra : TxR false l X h a) (hsz : l.length ≤ sizeLine) : Ev prog w A X h (call (.builtin "len") [a]) (IntR l.length) := fun Y s al le => by
  obtain ⟨t, rfl⟩ := ra
  rw [sizeLine_eq] at hsz
  refine len_str (by simp [Str.length]; omega) ⟨_, _, rfl, Kp.refl _, s.toks + 1, by simp [Str.length]⟩
theorem b_range {n : Nat} {a : Value} (ra : IntR n X h a) : Ev prog w A X h (call (.type "range") [a]) (RgR n) := fun Y s al le => by
  obtain ⟨t, rfl⟩ := ra
  exact call_range_1 ⟨_, _, rfl, kp_push _ _, _, _, _, _, rfl, al.not (get_size _), get_push _ _ rfl⟩
theorem intsAre_of {vs : List Value} {ns : List Int} (hx : All2 (fun u d => IntR d X h u) vs ns) : IntsAre vs ns := by
  induction hx with
  | nil => exact .nil
  | cons r _ ih => obtain ⟨t, rfl⟩ := r; exact .cons _ t ih
theorem b_sum {ns : List Int} {a : Value} (hA : A.handled = none) (ra : LsR IntR ns X h a) : Ev prog w A X h (call (.builtin "sum") [a]) (IntR ns.sum) := fun Y s al le => by
  obtain ⟨l, vs, rfl, _, hl, hx⟩ := (gr_ls gr_int ns).up le.lw ra
  have hi := intsAre_of hx
  obtain ⟨xs, hx'⟩ := hi.allInts.items
  have hl' : s.heap.IsList l (intItems xs) := hx' ▸ hl.isList
  refine sum_intListG hA hl' fun h' tk t' hk => ⟨h', tk, rfl, hk, t', ?_⟩
  have e1 : ns = xs.toList.map (·.1) := by
    rw [← nums_intItems, ← hx']
    exact (show numsOf vs.toArray.toList = ns from hi.numsOf).symm
  have e2 : preSum (numAt xs) xs.size = ns.sum := by
    rw [preSum_eq, List.take_of_length_le (by simp), e1]
  rw [e2]
theorem op_ladd {α : Type} {R : α → Pr} {ds es : List α} {a b : Value} (g : ∀ d, GR (R d)) (ra : LsR R ds X h a) (rb : LsR R es X h b) (hsz : ds.length + es.length ≤ sizeLine) : Ev prog w A X h (binaryOp .Add a b) (LsR R (ds ++ es)) := fun Y s al le => by
  obtain ⟨l, vs, rfl, _, hl, hx⟩ := (gr_ls g ds).up le.lw ra
  obtain ⟨m, ws, rfl, _, hm, hy⟩ := (gr_ls g es).up le.lw rb
  have e1 := hx.length
  have e2 := hy.length
  obtain ⟨n, en⟩ := hl
  obtain ⟨k, ek⟩ := hm
  refine concat_meets ⟨_, en, rfl⟩ ⟨_, ek, rfl⟩ noFill_list_add seq_list_add F.slot_list_add F.entry_list_add (F.args_list_add_2 _ _) (list_addW l m vs.toArray ws.toArray n k none none #[] #[] (by simp; omega)) ⟨en, ek, ?_⟩
  refine ⟨_, _, rfl, kp_push _ _, made_list (n := 0) (vs := vs ++ ws) al (get_size _) (by rw [get_push _ _ rfl]; simp) ?_⟩
  exact (hx.append hy).imp fun u d _ _ r => (g d).up (Le.of_kp (kp_push _ _)).lw r
end
end Mine
end

section
namespace Mine
open PySem PySem.W PyProof.Rows PySem.Calls PySem.SeqAt

section
variable {prog : Program} {w : World} {M : Model} {A : Around} {Fs Ms X : List Addr} {h₀ : Heap} {env : Env} {E : Value → Shared → Prop} {s : Shared} {m cm : Str → Option Value} {x : Str} {v : Value} {pos : Pos}

/-- a for whose turns end plainly -/
theorem st_for {iter : Expr} {px : Pos} {body : List Stmt} {α : Type} {R0 : Pr} {R : α → Pr} {ds : List α} {Q : Flow → Shared → Prop} (J : Addr → Nat → Heap → (Str → Option Value) → (Str → Option Value) → Prop) (mm cc : Value → (Str → Option Value) → Str → Option Value)
    (F : FS Fs h₀ env s.heap m cm) (al : Al X s.heap) (alF : Al Fs s.heap) (hMX : ∀ a ∈ Ms, a ∈ X) (hsrc : Ev prog w A X s.heap (eval iter env) R0) (hit : ∀ Y h' v, Le X s.heap Y h' → R0 Y h' v → Ev prog w A Y h' (pyIter v) (ItR prog w A Y h' R ds)) (gR : ∀ d, GR (R d))
    (S : ∀ v m cm, StN env x v m cm (mm v m) (cc v cm)) (hk : env.scope.kind = .function)
    (stab : ∀ I i h h' m cm, s.heap.get? I = none → J I i h m cm → (∀ b o, b ≠ I → b ≠ env.locals → (∀ n, env.cells.lookup n ≠ some b) → h.get? b = some o → h'.get? b = some o) → (∀ Z, I ∈ Z → Lw Z h Z h') → J I i h' m cm)
    (start : ∀ I h', s.heap.get? I = none → Kp s.heap h' → J I 0 h' m cm)
    (turn : ∀ I i d v h tk m₁ cm₁, s.heap.get? I = none → ds[i]? = some d → Sx Fs Ms env s.heap h → Al (I :: X) h → R d (I :: X) h v → FS Fs h₀ env h (mm v m₁) (cc v cm₁) → J I i h m₁ cm₁ →
      wpAny (model prog w) A (execs body env) (fun f s' => f = .next ∧ ∃ h' tk' m₂ cm₂, s' = { s with heap := h', toks := tk' } ∧ FS Fs h₀ env h' m₂ cm₂ ∧ Sx Fs Ms env h h' ∧ J I (i + 1) h' m₂ cm₂) (fun _ _ => False) { s with heap := h, toks := tk })
    (done : ∀ I h' tk m₁ cm₁, s.heap.get? I = none → FS Fs h₀ env h' m₁ cm₁ → Sx Fs Ms env s.heap h' → J I ds.length h' m₁ cm₁ → Q .next { s with heap := h', toks := tk })
    (hf : ∀ x, foldedSetIterable iter env x = pure x) :
    wpAny (model prog w) A (exec (.For (.Name x px) iter body [] pos) env) Q E s := by
  refine wpAny_For (hsrc.here al fun xv h₁ t₁ k₁ r0 => (hit X h₁ xv (Le.of_kp k₁) r0).here (s := { s with heap := h₁, toks := t₁ }) (al.up k₁) fun it h₂ t₂ k₂ hI => ?_) hf
  obtain ⟨I, fp, P, St, rfl, nI, W, st, hfp, hlv, hP⟩ := hI
  have nI0 : s.heap.get? I = none := k₁.none nI
  have al1 := al.up k₁
  have F1 := F.kp k₁
  have offX : I ∉ X := al1.not nI
  have offM : I ∉ Ms := fun q => offX (hMX I q)
  have offF : I ∉ Fs := alF.not nI0
  have offL : I ≠ env.locals := by rintro rfl; obtain ⟨o, _, _, e, _⟩ := F.ns; rw [nI0] at e; cases e
  have offC : ∀ n, env.cells.lookup n ≠ some I := fun n e => by obtain ⟨o, e', _⟩ := F.cl.cell n I e; rw [nI0] at e'; cases e'
  have alI : ∀ b o, h₁.get? b = some o → b ≠ I := fun b o e q => by rw [q, nI] at e; cases e
  refine codeAny_forLoop (fun k s' => ∃ i h' tk m₁ cm₁, s' = { s with heap := h', toks := tk } ∧ i ≤ ds.length ∧ k = ds.length + 1 - i ∧ St i h' ∧ FS Fs h₀ env h' m₁ cm₁ ∧ Sx Fs Ms env h₁ h' ∧ J I i h' m₁ cm₁) ?_ (ds.length + 1)
    ⟨0, h₂, t₂, m, cm, rfl, Nat.zero_le _, rfl, st, F1.kp k₂, Sx.of_kp k₂, start I h₂ nI0 (k₁.trans k₂)⟩
  rintro k s' ⟨i, H, tk, m₁, cm₁, rfl, hi, rfl, hst, hF, hS, hJ⟩
  have keepF : ∀ {H H' : Heap} {m cm : Str → Option Value}, FS Fs h₀ env H m cm → (∀ b o, b ≠ I → H.get? b = some o → H'.get? b = some o) → FS Fs h₀ env H' m cm := by
    intro H H' m cm F' kb
    refine ⟨F'.ns.at' fun o e => kb _ o (Ne.symm offL) e, F'.base.step fun b o ⟨o₀, e₀⟩ e => kb b o ?_ e, F'.above, ⟨fun n c e => ?_, F'.cl.apart, F'.cl.above⟩⟩
    · rintro rfl; obtain ⟨o', e'⟩ := F.base.live e₀; rw [nI0] at e'; cases e'
    · obtain ⟨o, ho, hd⟩ := F'.cl.cell n c e
      exact ⟨o, kb c o (by rintro rfl; exact offC n e) ho, hd⟩
  have keepS : ∀ {H H' : Heap}, Sx Fs Ms env h₁ H → (∀ b o, b ≠ I → H.get? b = some o → H'.get? b = some o) → Sx Fs Ms env h₁ H' := by
    intro H H' S' kb
    refine ⟨fun b o hb hf e => kb b o (alI b o e) (S'.keep b o hb hf e), fun b o e => ?_, fun b o h1 h2 h3 e => ?_⟩
    · obtain ⟨o', e'⟩ := S'.live b o e; exact ⟨o', kb b o' (alI b o e) e'⟩
    · rcases S'.ef b o h1 h2 h3 e with q | ⟨hb, sl, q⟩
      · exact .inl (kb b o (alI b o e) q)
      · exact .inr ⟨hb, sl, kb b _ (alI b o e) q⟩
  have keepW : ∀ {H H' : Heap} {j : Nat}, Sx Fs Ms env h₁ H → St j H → Sx Fs Ms env H H' → St j H' := by
    intro H H' j S' st' S''
    refine W.frame _ _ _ st' fun b hb o e => ?_
    rcases hfp b hb with rfl | ⟨hX, o', q, f⟩
    · exact (S''.ef b o offM offL offC e).elim id fun q => absurd q.1 offF
    · have hM : b ∉ Ms := fun q => hX (hMX b q)
      have e' := S'.keep b o' hM f q
      rw [e] at e'; injection e' with e'; subst e'
      exact S''.keep b o hM f e
  have alX : ∀ {H : Heap} {j : Nat}, Sx Fs Ms env h₁ H → St j H → Al (I :: X) H := by
    intro H j S' st'
    obtain ⟨o, e⟩ := hlv _ _ st'
    exact (S'.al al1).cons e
  by_cases hlt : i < ds.length
  · refine W.item i _ _ _ hlt hst fun v h₃ t₃ hPv hst₃ hk₃ => ?_
    have kb₃ : ∀ b o, b ≠ I → H.get? b = some o → h₃.get? b = some o := fun b o hb e => hk₃ b o (by simpa using hb) e
    have hF₃ := keepF hF kb₃
    have hS₃ := keepS hS kb₃
    have hJ₃ : J I i h₃ m₁ cm₁ := stab I i H h₃ m₁ cm₁ nI0 hJ (fun b o h1 _ _ e => kb₃ b o h1 e) (fun Z hZ => ⟨fun b o hb _ e => kb₃ b o (fun q => hb (q ▸ hZ)) e, fun _ ha => .inl ha⟩)
    refine wpAny_assign_Name (st_name (s := { s with heap := h₃, toks := t₃ }) hF₃ (S v m₁ cm₁) hk fun h₄ t₄ F₄ sx₄ => ?_)
    have hS₄ : Sx Fs Ms env h₁ h₄ := hS₃.trans (sx₄ Ms).fs
    have hst₄ : St (i + 1) h₄ := keepW hS₃ hst₃ (sx₄ Ms).fs
    have hJ₄ : J I i h₄ m₁ cm₁ := stab I i h₃ h₄ m₁ cm₁ nI0 hJ₃ (fun b o _ h2 h3 e => (sx₄ []).ef0 (by simp) h2 h3 e) (fun Z _ => (sx₄ Z).up fun _ h => h)
    have hd : ds[i]? = some ds[i] := List.getElem?_eq_getElem hlt
    have leR : Lw X h₁ (I :: X) h₄ := ⟨fun b o hb hf e => hS₄.keep b o (fun q => hb (hMX b q)) hf e, fun a ha => by
      rcases List.mem_cons.mp ha with rfl | ha
      · exact .inr nI
      · exact .inl ha⟩
    refine wpAny_mono (turn I i ds[i] v h₄ t₄ m₁ cm₁ nI0 hd ((Sx.of_kp k₁).trans hS₄) (alX hS₄ hst₄) ((gR _).up leR (hP i v _ hPv hd)) F₄ hJ₄) ?_ fun _ _ f => f.elim
    rintro f s' ⟨rfl, h₅, t₅, m₂, cm₂, rfl, F₅, S₅, J₅⟩
    exact ⟨ds.length + 1 - (i + 1), by omega, i + 1, h₅, t₅, m₂, cm₂, rfl, hlt, rfl, keepW hS₄ hst₄ S₅, F₅, hS₄.trans S₅, J₅⟩
  · have hin : i = ds.length := by omega
    subst hin
    refine W.done _ _ _ hst fun h₃ t₃ hk₃ => ?_
    have kb₃ : ∀ b o, b ≠ I → H.get? b = some o → h₃.get? b = some o := fun b o hb e => hk₃ b o (by simpa using hb) e
    exact wpAny_execs_nil (done I h₃ t₃ m₁ cm₁ nI0 (keepF hF kb₃) ((Sx.of_kp k₁).trans (keepS hS kb₃)) (stab I _ H h₃ m₁ cm₁ nI0 hJ (fun b o h1 _ _ e => kb₃ b o h1 e) (fun Z hZ => ⟨fun b o hb _ e => kb₃ b o (fun q => hb (q ▸ hZ)) e, fun _ ha => .inl ha⟩)))

/-! lists that a statement changes -/
theorem fs_but {h h' : Heap} {a : Addr} {its : Array Value} (F : FS Fs h₀ env h m cm) (hl : h.PlainList a its) (hs : Heap.SameBut a h h') (n : h₀.get? a = none) : FS Fs h₀ env h' m cm := by
  obtain ⟨k, e⟩ := hl
  have hL : env.locals ≠ a := by
    rintro rfl
    obtain ⟨o, es, ep, e', d, _⟩ := F.ns
    rw [e] at e'; injection e' with e'; subst e'; cases d
  refine ⟨F.ns.sameBut hs hL, F.base.step fun b o ⟨o₀, e₀⟩ q => hs.extBut b o (by rintro rfl; rw [n] at e₀; cases e₀) q, F.above, ⟨fun x c q => ?_, F.cl.apart, F.cl.above⟩⟩
  obtain ⟨o, ho, hd⟩ := F.cl.cell x c q
  refine (F.cl.cell x c q).sameBut hs ?_
  rintro rfl
  rw [e] at ho; injection ho with ho; subst ho; cases hd
theorem sx_but {h h' : Heap} {a : Addr} {its' : Array Value} (hs : Heap.SameBut a h h') (hl : h'.PlainList a its') : Sx [] [a] env h h' := by
  obtain ⟨k, e⟩ := hl
  refine ⟨fun b o hb _ q => hs.extBut b o (fun r => hb (by simp [r])) q, fun b o q => ?_, fun b o hb _ _ q => .inl (hs.extBut b o (fun r => hb (by simp [r])) q)⟩
  by_cases hb : b = a
  · subst hb; exact ⟨_, e⟩
  · exact ⟨o, hs.extBut b o hb q⟩

/-- a list that was made just now -/
def NwR (h : Heap) {α : Type} (R : α → Pr) (ds : List α) : Pr := fun X h' v => ∃ a vs, v = .ref a ∧ h.get? a = none ∧ h'.PlainList a vs.toArray ∧ All2 (fun u d => R d (a :: X) h' u) vs ds

/-- x = e, where e makes a list that statements will change -/
theorem as_new {px : Pos} {e : Expr} {α : Type} {R : α → Pr} {ds : List α} {Q : Flow → Shared → Prop} {mm cc : Value → Str → Option Value} (F : FS Fs h₀ env s.heap m cm) (al : Al X s.heap) (he : Ev prog w A X s.heap (eval e env) (NwR s.heap R ds)) (g : ∀ d, GR (R d))
    (S : ∀ v, StN env x v m cm (mm v) (cc v)) (hk : env.scope.kind = .function) (hs : swapsWith e (some (.Name x px)) pos.line env = pure false)
    (k : ∀ a vs h' tk, s.heap.get? a = none → a ≠ env.locals → (∀ n, env.cells.lookup n ≠ some a) → FS Fs h₀ env h' (mm (.ref a)) (cc (.ref a)) → Sx [] [] env s.heap h' → Lw X s.heap (a :: X) h' → Al (a :: X) h' → h'.PlainList a vs.toArray → All2 (fun u d => R d (a :: X) h' u) vs ds → Q .next { s with heap := h', toks := tk }) :
    wpAny (model prog w) A (exec (.Assign [.Name x px] e pos) env) Q E s := by
  refine wpAny_Assign_Name (he.here al fun v h₁ t₁ k₁ r => ?_) hs
  obtain ⟨a, vs, rfl, n0, ⟨n, e0⟩, hx⟩ := r
  refine st_name (s := { s with heap := h₁, toks := t₁ }) (F.kp k₁) (S _) hk fun h' tk F' sx => ?_
  have e1 := (sx []).keep a _ (by simp) (.inl ⟨_, _, rfl⟩) e0
  have sx' : Sx [] [] env s.heap h' := (Sx.of_kp k₁).trans (sx [])
  refine k a vs h' tk n0 ?_ ?_ F' sx' ⟨fun b o hb f e => sx'.keep b o (by simp) f e, fun b hb => ?_⟩ ((sx'.al al).cons e1) ⟨n, e1⟩ (hx.imp fun u d _ _ r => (g d).up ((sx (a :: X)).up fun _ h => h) r)
  · rintro e; obtain ⟨o, _, _, q, _⟩ := F.ns; rw [← e, n0] at q; cases q
  · intro n e; obtain ⟨o, q, _⟩ := F.cl.cell n _ e; rw [n0] at q; cases q
  · rcases List.mem_cons.mp hb with rfl | hb
    · exact .inr n0
    · exact .inl hb

theorem nw_List {elts : List Expr} {α : Type} {R : α → Pr} {ds : List α} {Rs : List Pr} {h : Heap} (ha : Ev prog w A X h (spliced (backTo pos (starEach elts env))) (Ls2 Rs)) (g : ∀ d, GR (R d))
    (hx : ∀ Y h' vs, Ls2 Rs Y h' vs → All2 (fun u d => R d Y h' u) vs ds) (hsz : ds.length ≤ sizeLine) : Ev prog w A X h (eval (.List elts pos) env) (NwR h R ds) := fun Y s al le =>
  List_ (ha.use al le fun vs h₁ t₁ k₁ r => wpAny_newList ⟨_, t₁, rfl, k₁.trans (kp_push _ _), h₁.objs.size, vs, rfl, le.kp.none (k₁.none (get_size _)), ⟨0, get_push _ _ rfl⟩, (hx Y h₁ vs r).imp fun u d _ _ f => (g d).up (Le.add (kp_push _ _) (get_size _)).lw f⟩ (by rw [(hx Y h₁ vs r).length]; exact hsz))
theorem nw_nil {α : Type} {R : α → Pr} {h : Heap} (g : ∀ d, GR (R d)) : Ev prog w A X h (eval (.List [] pos) env) (NwR h R []) := nw_List ev_args_nil g (fun _ _ vs e => by rw [show vs = [] from e]; exact .nil) (by simp)
end
end Mine
end

section
namespace Mine
open PySem PySem.W PyProof.Rows PySem.Calls PySem.SeqAt

theorem remove_loopAt (l : Addr) (items : Array Value) (n : Nat) (x : Value) (e : Value → Bool) (j : Nat) (hj : j < items.size) (hit : e items[j] = true) (k : Nat) (hs1 : items.size ≤ sizeLine) :
    ∀ i : Nat, j - i = k → i ≤ j → (∀ m (hm : m < items.size), i ≤ m → m < j → e items[m] = false) → Meets (Builtin.«list.remove.loop» ⟨[.ref l, x, rawInt i], []⟩)
      (fun A R s => s.heap.get? l = some { cls := .type "list", dict := none, data := .seq items n, slots := #[] } ∧ (∀ y, y ∈ items → EqAt A.in1 s y x (e y)) ∧ R (.ok (.ret .none)) { s with heap := s.heap.update l (Obj.mapSeq fun xs => xs.eraseIdxIfInBounds j) }) := by
  induction k with
  | zero =>
    intro i hk hij hno prog w A R s h
    obtain ⟨hp, g, d, tk, os⟩ := s; obtain ⟨hl, he, h⟩ := h
    have hij' : i = j := by omega
    subst hij'
    wp_walk using AutoSeq1.wpAny_loadPart' hl
    have hi : items[((i : Nat) : Int).toNat]? = some items[i] := by simp [hj]
    rw [hi]
    refine wpAny_bind (he _ (Array.getElem_mem hj) prog w _ _ ?_)
    rw [hit]
    have hz' : (items.eraseIdxIfInBounds i).size ≤ sizeLine + 1 := Nat.le_trans (MeetsSeq.size_erased items _) (Nat.le_succ_of_le hs1)
    wp_walk using (wpAny_updateSeq hl rfl (hz := hs1) (_hz' := hz')), AutoSeq1.wpAny_loadPart' hl
    simpa using h
  | succ k ih =>
    intro i hk hij hno prog w A R s h
    obtain ⟨hp, g, d, tk, os⟩ := s; obtain ⟨hl, he, h⟩ := h
    have hlt : i < items.size := by omega
    wp_walk using AutoSeq1.wpAny_loadPart' hl
    have hi : items[((i : Nat) : Int).toNat]? = some items[i] := by simp [hlt]
    have hc : ((i : Int) + 1) = ((i + 1 : Nat) : Int) := by push_cast; rfl
    rw [hi]
    refine wpAny_bind (he _ (Array.getElem_mem hlt) prog w _ _ ?_)
    rw [hno i hlt (Nat.le_refl _) (by omega)]
    wp_walk
    rw [hc]
    exact ⟨plainId_quiet MeetsSeq.plain_remove_loop _, codeAny_builtin MeetsSeq.entry_remove_loop (by
      rw [Around.under_plainId MeetsSeq.plain_remove_loop _]
      exact ih (i + 1) (by omega) (by omega) (fun m hm h1 h2 => hno m hm (by omega) h2) prog w A R _ ⟨hl, he, h⟩)⟩
theorem list_removeAt (l : Addr) (items : Array Value) (n : Nat) (x : Value) (e : Value → Bool) (j : Nat) (hj : j < items.size) (hit : e items[j] = true) (hno : ∀ m (hm : m < items.size), m < j → e items[m] = false) (hs1 : items.size ≤ sizeLine) :
    Meets (Builtin.«list.remove» ⟨[.ref l, x], []⟩)
      (fun A R s => s.heap.get? l = some { cls := .type "list", dict := none, data := .seq items n, slots := #[] } ∧ (∀ y, y ∈ items → EqAt A.in1 s y x (e y)) ∧ R (.ok (.ret .none)) { s with heap := s.heap.update l (Obj.mapSeq fun xs => xs.eraseIdxIfInBounds j) }) := by
  intro prog w A R s h
  obtain ⟨hp, g, d, tk, os⟩ := s; obtain ⟨hl, he, h⟩ := h
  wp_walk using AutoSeq1.wpAny_loadPart' hl
  exact ⟨plainId_quiet MeetsSeq.plain_remove_loop _, codeAny_builtin MeetsSeq.entry_remove_loop (by
    rw [Around.under_plainId MeetsSeq.plain_remove_loop _]
    exact remove_loopAt l items n x e j hj hit j hs1 0 (by omega) (Nat.zero_le _) (fun m hm _ h2 => hno m hm h2) prog w A R _ ⟨hl, he, h⟩)⟩

theorem All2.eraseIdx {α β : Type} {F : α → β → Prop} {l₁ : List α} {l₂ : List β} (h : All2 F l₁ l₂) (n : Nat) : All2 F (l₁.eraseIdx n) (l₂.eraseIdx n) := by
  induction h generalizing n with
  | nil => simpa using All2.nil
  | cons h1 h2 ih => cases n with
    | zero => exact h2
    | succ n => exact .cons h1 (ih n)
theorem erase_idx {α : Type} [DecidableEq α] (d : α) : ∀ l : List α, l.erase d = l.eraseIdx (l.idxOf d)
  | [] => rfl
  | x :: l => by
    by_cases e : x = d
    · subst e; simp
    · rw [List.erase_cons_tail (by simpa using e), List.idxOf_cons]
      rw [show (x == d) = false by simpa using e, cond_false, List.eraseIdx_cons_succ, erase_idx d l]
theorem plain_upd {h : Heap} {a : Addr} {its : Array Value} (hl : h.PlainList a its) (f : Array Value → Array Value) : (h.update a (Obj.mapSeq f)).PlainList a (f its) := by
  obtain ⟨n, e⟩ := hl
  exact ⟨_, Heap.get?_update_self _ e rfl⟩

section
variable {prog : Program} {w : World} {M : Model} {A : Around} {Fs X : List Addr} {h₀ : Heap} {env : Env} {E : Value → Shared → Prop} {s : Shared} {m cm : Str → Option Value} {x : Str} {pos : Pos}

/-- acc.meth(e): the value of e, then the built-in, which changes acc alone -/
theorem st_meth {np apos cpos : Pos} {name : Str} {id : String} {e : Expr} {a : Addr} {its : Array Value} {R : Pr} {Q : Flow → Shared → Prop} (F : FS Fs h₀ env s.heap m cm) (al : Al X s.heap) (ha : a ∈ X) (na : h₀.get? a = none) (hl : s.heap.PlainList a its)
    (S : See env s.heap x (.ref a)) (he : Ev prog w A X s.heap (eval e env) R) (g : GR R) (slot : Slot "list" name id) (hty : typeOf (.builtin id) = pure (.type "method_descriptor")) (out : Value → Array Value)
    (hc : ∀ v h' tk (Q' : Value → Shared → Prop) (E' : Value → Shared → Prop), h'.PlainList a its → R X h' v → (∀ h'', h''.PlainList a (out v) → Heap.SameBut a h' h'' → Q' .none { s with heap := h'', toks := tk }) → wpAny (model prog w) A (call (.builtin id) [.ref a, v]) Q' E' { s with heap := h', toks := tk })
    (k : ∀ v h' tk, FS Fs h₀ env h' m cm → Sx [] [a] env s.heap h' → Al X h' → h'.PlainList a (out v) → R X h' v → Q .next { s with heap := h', toks := tk })
    (hk : env.scope.kind = .function) (hd : (x == ("__debug__" : Str)) = false) (hbase : attributeBase (.Name x np) name env (eval (.Name x np) env) = eval (.Name x np) env) (hs : starEach [e] env = [(false, eval e env)]) (hline : (apos.endLine == cpos.line) = true)
    (hi : interactive env = false) (hsw : swapsWith (.Call (.Attribute (.Name x np) name apos) [e] [] cpos) none pos.line env = pure false) :
    wpAny (model prog w) A (exec (.Expr (.Call (.Attribute (.Name x np) name apos) [e] [] cpos) pos) env) Q E s := by
  refine wpAny_Expr (Call_method1 hbase hs hline (see_load S hk hd ⟨"list", id, PySem.F.plainAttrs_list, slot, hty, hl.isList.typeIs, (recv_plain hl).2, ?_⟩)) hi hsw
  refine callWith_builtin rfl (evalArgs_plain (spliced_cons (he.here al fun v h₁ t₁ k₁ r => spliced_nil ?_)))
  refine hc v h₁ t₁ _ _ (hl.at fun o e => k₁ a o e) r fun h₂ hl₂ hs₂ => ?_
  have sx : Sx [] [a] env h₁ h₂ := sx_but hs₂ hl₂
  have sa : ∀ b ∈ [a], b ∈ X := fun b hb => by rw [List.mem_singleton.mp hb]; exact ha
  exact k v h₂ t₁ (fs_but (F.kp k₁) (hl.at fun o e => k₁ a o e) hs₂ na) ((Sx.of_kp k₁).trans sx) (sx.al (al.up k₁)) hl₂ (g.up (sx.up sa) r)

theorem st_append {np apos cpos : Pos} {e : Expr} {a : Addr} {vs : List Value} {R : Pr} {Q : Flow → Shared → Prop} (F : FS Fs h₀ env s.heap m cm) (al : Al X s.heap) (ha : a ∈ X) (na : h₀.get? a = none) (hl : s.heap.PlainList a vs.toArray)
    (S : See env s.heap x (.ref a)) (he : Ev prog w A X s.heap (eval e env) R) (g : GR R) (hsz : vs.length ≤ sizeLine)
    (k : ∀ v h' tk, FS Fs h₀ env h' m cm → Sx [] [a] env s.heap h' → Al X h' → h'.PlainList a (vs ++ [v]).toArray → R X h' v → Q .next { s with heap := h', toks := tk })
    (hk : env.scope.kind = .function) (hd : (x == ("__debug__" : Str)) = false) (hbase : attributeBase (.Name x np) "append" env (eval (.Name x np) env) = eval (.Name x np) env) (hs : starEach [e] env = [(false, eval e env)]) (hline : (apos.endLine == cpos.line) = true)
    (hi : interactive env = false) (hsw : swapsWith (.Call (.Attribute (.Name x np) "append" apos) [e] [] cpos) none pos.line env = pure false) :
    wpAny (model prog w) A (exec (.Expr (.Call (.Attribute (.Name x np) "append" apos) [e] [] cpos) pos) env) Q E s :=
  st_meth F al ha na hl S he g PySem.F.slot_list_append PySem.F.type_list_append (fun v => (vs ++ [v]).toArray) (fun v h' tk Q' E' hl' _ q => wpAny_list_append_plain (s := { s with heap := h', toks := tk }) hl' (fun h'' hl'' hs'' => q h'' (by simpa using hl'') hs'') (by simpa using hsz)) k hk hd hbase hs hline hi hsw

theorem st_extend {np apos cpos : Pos} {e : Expr} {a : Addr} {vs : List Value} {α : Type} {R : α → Pr} {ds : List α} {Q : Flow → Shared → Prop} (F : FS Fs h₀ env s.heap m cm) (al : Al X s.heap) (ha : a ∈ X) (na : h₀.get? a = none) (hl : s.heap.PlainList a vs.toArray)
    (S : See env s.heap x (.ref a)) (he : Ev prog w A X s.heap (eval e env) (LsR R ds)) (g : ∀ d, GR (R d)) (hsz : vs.length + ds.length ≤ sizeLine)
    (k : ∀ us h' tk, FS Fs h₀ env h' m cm → Sx [] [a] env s.heap h' → Al X h' → h'.PlainList a (vs ++ us).toArray → All2 (fun u d => R d X h' u) us ds → Q .next { s with heap := h', toks := tk })
    (hk : env.scope.kind = .function) (hd : (x == ("__debug__" : Str)) = false) (hbase : attributeBase (.Name x np) "extend" env (eval (.Name x np) env) = eval (.Name x np) env) (hs : starEach [e] env = [(false, eval e env)]) (hline : (apos.endLine == cpos.line) = true)
    (hi : interactive env = false) (hsw : swapsWith (.Call (.Attribute (.Name x np) "extend" apos) [e] [] cpos) none pos.line env = pure false) :
    wpAny (model prog w) A (exec (.Expr (.Call (.Attribute (.Name x np) "extend" apos) [e] [] cpos) pos) env) Q E s := by
  refine wpAny_Expr (Call_method1 hbase hs hline (see_load S hk hd ⟨"list", "list.extend", PySem.F.plainAttrs_list, PySem.F.slot_list_extend, PySem.F.type_list_extend, hl.isList.typeIs, (recv_plain hl).2, ?_⟩)) hi hsw
  refine callWith_builtin rfl (evalArgs_plain (spliced_cons (he.here al fun v h₁ t₁ k₁ r => spliced_nil ?_)))
  obtain ⟨b, us, rfl, nb, hb, hx⟩ := r
  have hl₁ : h₁.PlainList a vs.toArray := hl.at fun o e => k₁ a o e
  have e1 := hx.length
  obtain ⟨n, en⟩ := hl₁
  obtain ⟨n', en'⟩ := hb
  refine call_meets (s := { s with heap := h₁, toks := t₁ }) PySem.F.slot_list_extend ⟨_, en, rfl⟩ PySem.F.entry_list_extend (PySem.F.args_list_extend_2 _ _) (AutoSeq1.list_extend_list_list_0 a vs.toArray n b us.toArray n' ?_ ?_ ?_) ⟨en, en', ?_⟩
  · simp [Builtin.List.listTooLong]; omega
  · simp; omega
  · simp; omega
  have hl₂ : (h₁.update a (Obj.mapSeq fun x => x ++ us.toArray)).PlainList a (vs ++ us).toArray := by
    have := plain_upd (f := fun x => x ++ us.toArray) (⟨n, en⟩ : h₁.PlainList a vs.toArray)
    simpa using this
  have hs₂ : Heap.SameBut a h₁ (h₁.update a (Obj.mapSeq fun x => x ++ us.toArray)) := Heap.SameBut.update ..
  have sx := sx_but (env := env) hs₂ hl₂
  have sa : ∀ b ∈ [a], b ∈ X := fun b hb => by rw [List.mem_singleton.mp hb]; exact ha
  exact k us _ t₁ (fs_but (F.kp k₁) ⟨n, en⟩ hs₂ na) ((Sx.of_kp k₁).trans sx) (sx.al (al.up k₁)) hl₂ (hx.imp fun u d _ _ r => (g d).up (sx.up sa) r)

/-- the first of equal ones goes -/
theorem st_remove {np apos cpos : Pos} {e : Expr} {a : Addr} {vs : List Value} {α : Type} [DecidableEq α] {R : α → Pr} {d : α} {ds : List α} {n : Nat} {Q : Flow → Shared → Prop} (F : FS Fs h₀ env s.heap m cm) (al : Al X s.heap) (ha : a ∈ X) (na : h₀.get? a = none) (hl : s.heap.PlainList a vs.toArray)
    (hx : All2 (fun u d => R d X s.heap u) vs ds) (S : See env s.heap x (.ref a)) (he : Ev prog w A X s.heap (eval e env) (R d)) (g : ∀ d, GR (R d)) (Er : EqR R n) (hu : A.units + (n + 1) < cLine) (hmem : d ∈ ds) (hsz : ds.length ≤ sizeLine)
    (k : ∀ us h' tk, FS Fs h₀ env h' m cm → Sx [] [a] env s.heap h' → Al X h' → h'.PlainList a us.toArray → All2 (fun u d => R d X h' u) us (ds.erase d) → Q .next { s with heap := h', toks := tk })
    (hk : env.scope.kind = .function) (hd : (x == ("__debug__" : Str)) = false) (hbase : attributeBase (.Name x np) "remove" env (eval (.Name x np) env) = eval (.Name x np) env) (hs : starEach [e] env = [(false, eval e env)]) (hline : (apos.endLine == cpos.line) = true)
    (hi : interactive env = false) (hsw : swapsWith (.Call (.Attribute (.Name x np) "remove" apos) [e] [] cpos) none pos.line env = pure false) :
    wpAny (model prog w) A (exec (.Expr (.Call (.Attribute (.Name x np) "remove" apos) [e] [] cpos) pos) env) Q E s := by
  refine wpAny_Expr (Call_method1 hbase hs hline (see_load S hk hd ⟨"list", "list.remove", PySem.F.plainAttrs_list, PySem.F.slot_list_remove, PySem.F.type_list_remove, hl.isList.typeIs, (recv_plain hl).2, ?_⟩)) hi hsw
  refine callWith_builtin rfl (evalArgs_plain (spliced_cons (he.here al fun v h₁ t₁ k₁ r => spliced_nil ?_)))
  have hl₁ : h₁.PlainList a vs.toArray := hl.at fun o e => k₁ a o e
  have hx₁ : All2 (fun u d => R d X h₁ u) vs ds := hx.imp fun u d _ _ r => (g d).up (Le.of_kp k₁).lw r
  have e1 := hx.length
  obtain ⟨n', en⟩ := hl₁
  have hj : ds.idxOf d < ds.length := List.idxOf_lt_length_iff.mpr hmem
  have hjd : ds[ds.idxOf d] = d := List.getElem_idxOf hj
  have hno : ∀ m (hm : m < ds.length), m < ds.idxOf d → ds[m] ≠ d := fun m hm hlt q => by
    have := List.not_of_lt_findIdx (p := (· == d)) (xs := ds) (i := m) hlt
    simp [q] at this
  have hitE : ∀ m (hm : m < vs.toArray.size), hit R d X h₁ vs.toArray[m] = decide (ds[m]'(by simpa [e1] using hm) = d) := fun m hm => by
    have hm' : m < vs.length := by simpa using hm
    obtain ⟨d', hd', r'⟩ := hx₁.get (List.getElem?_eq_getElem hm')
    rw [List.getElem?_eq_getElem (by omega)] at hd'
    injection hd' with hd'
    rw [List.getElem_toArray, hit_of Er r', ← hd']
  refine call_meets (s := { s with heap := h₁, toks := t₁ }) PySem.F.slot_list_remove ⟨_, en, rfl⟩ PySem.F.entry_list_remove (PySem.F.args_list_remove_2 _ _) (list_removeAt a vs.toArray n' v (hit R d X h₁) (ds.idxOf d) (by simp; omega) (by rw [hitE]; simpa using hjd) (fun m hm hlt => by rw [hitE]; simpa using hno m _ hlt) (by simp; omega)) ⟨en, fun y hy => ?_, ?_⟩
  · obtain ⟨e', _, re⟩ := hx₁.mem (by simpa using hy)
    rw [hit_of Er re]
    exact Er.eq (by simp; omega) re r
  have hl₂ : (h₁.update a (Obj.mapSeq fun xs => xs.eraseIdxIfInBounds (ds.idxOf d))).PlainList a (vs.eraseIdx (ds.idxOf d)).toArray := by
    have := plain_upd (f := fun xs => xs.eraseIdxIfInBounds (ds.idxOf d)) (⟨n', en⟩ : h₁.PlainList a vs.toArray)
    simpa using this
  have hs₂ : Heap.SameBut a h₁ (h₁.update a (Obj.mapSeq fun xs => xs.eraseIdxIfInBounds (ds.idxOf d))) := Heap.SameBut.update ..
  have sx := sx_but (env := env) hs₂ hl₂
  have sa : ∀ b ∈ [a], b ∈ X := fun b hb => by rw [List.mem_singleton.mp hb]; exact ha
  refine k _ _ t₁ (fs_but (F.kp k₁) ⟨n', en⟩ hs₂ na) ((Sx.of_kp k₁).trans sx) (sx.al (al.up k₁)) hl₂ ?_
  rw [erase_idx]
  exact (hx₁.eraseIdx _).imp fun u d _ _ r => (g d).up (sx.up sa) r
end
end Mine
end

section
namespace Mine
open PySem PySem.W PyProof.Rows PySem.Calls PySem.SeqAt

def prg : Program := PySem.Challenge.pw_op0009_01
def fdef (n : Nat) : Stmt := prg.main.body.getD n (.Pass default)
def fbody (n : Nat) : List Stmt := match fdef n with | .FunctionDef _ _ b _ _ _ _ _ _ _ => b | _ => []
def fscope (n : Nat) : Scope := match fdef n with | .FunctionDef _ _ _ _ _ _ sc _ _ _ => sc | _ => prg.main.scope
def fparams (n : Nat) : Arguments := match fdef n with | .FunctionDef _ a _ _ _ _ _ _ _ _ => a | _ => { posonlyargs := [], args := [], vararg := none, kwonlyargs := [], kw_defaults := [], kwarg := none, defaults := [] }
abbrev fenv (n : Nat) (q : Str) (cd : Value) (L a : Addr) : Env :=
  { scope := fscope n, locals := L, globals := mainGlobals, cells := cellsFrom (L + 1) (fscope n).names [], qual := q ++ ".<locals>.", func := some a, code := cd, frame := some L, builtins := builtinsNs }
abbrev ffd (n : Nat) (nm q : Str) (kd doc pm : Value) (an : Option Addr) (cd ct : Value) : FuncData :=
  { name := nm, qualname := q, params := fparams n, body := .stmts (fbody n), scope := fscope n, globals := mainGlobals, closure := [], defaults := .none, kwdefaults := kd, doc := doc, pyModule := pm, annotations := an, code := cd, closureTuple := ct, builtins := builtinsNs }
def IsFn (h : Heap) (n : Nat) (a : Addr) : Prop := ∃ o nm q doc pm an cd ct, h.get? a = some o ∧ o.data = .func (ffd n nm q .none doc pm an cd ct) ∧ h.CodeRec cd q
theorem IsFn.up {h h' : Heap} {n : Nat} {a : Addr} (x : IsFn h n a) (k : Kp h h') : IsFn h' n a := by
  obtain ⟨o, nm, q, doc, pm, an, cd, ct, e, d, c⟩ := x
  exact ⟨o, nm, q, doc, pm, an, cd, ct, k _ _ e, d, c.keeps k⟩

def fname (n : Nat) : Str := match fdef n with | .FunctionDef nm _ _ _ _ _ _ _ _ _ => nm | _ => Str.empty
def fns : List Nat := [1, 4, 5, 7, 9, 10, 11, 12, 13]
def bnames : List (Str × Value) := [(Str.ofString "sum", .builtin "sum"), (Str.ofString "len", .builtin "len"), (Str.ofString "range", .type "range"), (Str.ofString "sorted", .builtin "sorted"), (Str.ofString "isinstance", .builtin "isinstance"),
  (Str.ofString "bytes", .type "bytes"), (Str.ofString "dict", .type "dict"), (Str.ofString "list", .type "list"), (Str.ofString "TypeError", .type "TypeError"), (Str.ofString "ValueError", .type "ValueError"), (Str.ofString "IndexError", .type "IndexError")]
/-- what the top has left: its defs, the names -/
structure Bs (fa : Nat → Addr) (h : Heap) : Prop where
  lim : h.NoLimit
  fn : ∀ n ∈ fns, IsFn h n (fa n)
  d3 : ∃ o nm q doc pm an cd ct kd mk u, h.get? (fa 3) = some o ∧ o.data = .func (ffd 3 nm q (.ref kd) doc pm an cd ct) ∧ h.CodeRec cd q ∧ h.Ns kd mk ∧ mk (Str.ofString "unhashable_fallback") = some u
  glob : ∃ mg mb, h.Ns mainGlobals mg ∧ h.Ns builtinsNs mb ∧ (∀ n ∈ 3 :: fns, mg (fname n) = some (.ref (fa n))) ∧ ∀ p ∈ bnames, mg p.1 = none ∧ mb p.1 = some p.2
theorem Bs.up {fa : Nat → Addr} {h h' : Heap} (B : Bs fa h) (k : Kp h h') : Bs fa h' := by
  refine ⟨B.lim.keeps k, fun n hn => (B.fn n hn).up k, ?_, ?_⟩
  · obtain ⟨o, nm, q, doc, pm, an, cd, ct, kd, mk, u, e1, e2, e3, e4, e5⟩ := B.d3
    exact ⟨o, nm, q, doc, pm, an, cd, ct, kd, mk, u, k _ _ e1, e2, e3.keeps k, e4.keeps k, e5⟩
  · obtain ⟨mg, mb, h1, h2, h3⟩ := B.glob
    exact ⟨mg, mb, h1.keeps k, h2.keeps k, h3⟩
theorem Bs.f {fa : Nat → Addr} {h : Heap} (B : Bs fa h) (n : Nat) {env : Env} (hn : n ∈ 3 :: fns) (hk : env.kindOf (fname n) = some .globalImplicit) (hg : env.globals = mainGlobals) : See env h (fname n) (.ref (fa n)) := by
  obtain ⟨mg, mb, h1, h2, h3, h4⟩ := B.glob
  exact .glob hk (hg ▸ h1) (h3 n hn)
theorem Bs.b {fa : Nat → Addr} {h : Heap} (B : Bs fa h) {x : Str} {v : Value} {env : Env} (hx : (x, v) ∈ bnames) (hk : env.kindOf x = some .globalImplicit) (hg : env.globals = mainGlobals) (hb : env.builtins = builtinsNs) : See env h x v := by
  obtain ⟨mg, mb, h1, h2, h3, h4⟩ := B.glob
  exact .built hk (hg ▸ h1) (h4 _ hx).1 (hb ▸ h2) (h4 _ hx).2

/-- how deep a call may still go -/
structure Ok (n : Nat) (A : Around) : Prop where
  handled : A.handled = none
  depth : A.depth + n < 900
  units : A.units + 4 * n < 900
theorem Ok.deeper {n : Nat} {A : Around} (k : Ok (n + 1) A) (env : Env) : Ok n (A.deeper env) := ⟨k.handled, by have := k.depth; show A.depth + 1 + n < 900; omega, by have := k.units; show A.units + 3 + 4 * n < 900; omega⟩
theorem Ok.cline {n : Nat} {A : Around} (k : Ok n A) (j : Nat) (hj : j ≤ 64) : A.units + j < cLine := by have := k.units; rw [cLine]; omega

section
variable {prog : Program} {w : World} {A : Around} {X : List Addr} {h : Heap}
theorem ev_callD {fa : Nat → Addr} {env : Env} {pos np : Pos} {e : Expr} {rest : List Expr} {Rs : List Pr} {R : Pr} (n : Nat) (B : Bs fa h) (hn : n ∈ fns) (hn' : n ∈ 3 :: fns) (ha : Ev prog w A X h (spliced (backTo pos (starEach (e :: rest) env))) (Ls2 Rs))
    (hc : ∀ Y h' vs, Le X h Y h' → Bs fa h' → Ls2 Rs Y h' vs → Ev prog w A Y h' (call (.ref (fa n)) vs) R) (hx : env.kindOf (fname n) = some .globalImplicit) (hg : env.globals = mainGlobals) (hk : env.scope.kind = .function) (hd : (fname n == ("__debug__" : Str)) = false)
    (he : starEach (e :: rest) env = (false, eval e env) :: starEach rest env) : Ev prog w A X h (eval (.Call (.Name (fname n) np) (e :: rest) [] pos) env) R := by
  obtain ⟨o, nm, q, doc, pm, an, cd, ct, e1, e2, _⟩ := B.fn n hn
  exact ev_callF (B.f n hn' hx hg) e1 e2 ha (fun Y h' vs l r => hc Y h' vs l (B.up l.kp) r) hk hd he
/-- a call of a def, by its body -/
theorem call_fn {n k : Nat} {a : Addr} {args : List Value} {binds : List (Str × Value)} {R : Pr} (hA : Ok (k + 1) A) (lim : h.NoLimit) (fn : IsFn h n a)
    (hbind : ∀ nm q doc pm an cd ct, bindArgs (ffd n nm q .none doc pm an cd ct) ⟨args, []⟩ = pure binds)
    (hkind : ∀ L, ∀ x ∈ binds, (fscope n).names.lookup x.1 = some .local ∨ ((fscope n).names.lookup x.1 = some .cell ∧ ((cellsFrom (L + 1) (fscope n).names []).lookup x.1).isSome = true))
    (body : ∀ Y (s : Shared) q cd L h₁ tk, Le X h Y s.heap → Al Y s.heap → Kp s.heap h₁ → FS [] s.heap (fenv n q cd L a) h₁ (bindL (fenv n q cd L a).kindOf binds fun _ => none) (bindC (fenv n q cd L a).kindOf binds fun _ => none) → Ok k (A.deeper (fenv n q cd L a)) →
      wpAny (model prog w) (A.deeper (fenv n q cd L a)) (execs (fbody n) (fenv n q cd L a)) (fun f s' => ∃ v h' tk', f = .ret v ∧ s' = { s with heap := h', toks := tk' } ∧ Kp s.heap h' ∧ R Y h' v) (fun _ _ => False) { s with heap := h₁, toks := tk })
    (hco : (fscope n).isCoroutine = false) (hgen : (fscope n).isGenerator = false) (hk : (fscope n).kind = .function) : Ev prog w A X h (call (.ref a) args) R := fun Y s al le => by
  obtain ⟨o, nm, q, doc, pm, an, cd, ct, e, d, c⟩ := fn.up le.kp
  refine wpAny_call (codeAny_call_cells (fd := ffd n nm q .none doc pm an cd ct) (by have := hA.depth; rw [recursionLimit]; omega) e d (lim.keeps le.kp) c rfl (hbind ..) rfl (hkind _) (fun s₁ Xc => ?_) hco hgen hk)
  obtain ⟨h₁, tk, rfl, _⟩ := Xc.done
  refine wpAny_mono (body Y s q cd s.heap.objs.size h₁ tk le al Xc.toInCall.keep ⟨Xc.toInCall.ns, Kp.kf Xc.toInCall.keep, Xc.toInCall.fresh, ⟨Xc.cell, Xc.apart, Xc.above⟩⟩ (hA.deeper _)) ?_ fun _ _ f => f.elim
  rintro f s' ⟨v, h', tk', rfl, rfl, kp, r⟩
  exact ⟨h', tk', rfl, kp, r⟩
end
end Mine
end

section
set_option maxRecDepth 100000
namespace Mine
open PySem PySem.W PyProof.Rows PySem.Calls PySem.SeqAt

def addNew {α : Type} [DecidableEq α] (acc : List α) (d : α) : List α := if d ∈ acc then acc else acc ++ [d]
def dedupL {α : Type} [DecidableEq α] (ds : List α) : List α := ds.foldl addNew []
theorem dedupL_take {α : Type} [DecidableEq α] {ds : List α} {i : Nat} {d : α} (e : ds[i]? = some d) : dedupL (ds.take (i + 1)) = addNew (dedupL (ds.take i)) d := by
  rw [List.take_add_one, e]; simp [dedupL]
theorem addNew_len {α : Type} [DecidableEq α] (acc : List α) (d : α) : (addNew acc d).length ≤ acc.length + 1 := by
  unfold addNew; split <;> simp
theorem foldl_addNew_len {α : Type} [DecidableEq α] (ds : List α) : ∀ acc : List α, (ds.foldl addNew acc).length ≤ acc.length + ds.length := by
  induction ds with
  | nil => intro acc; simp
  | cons d ds ih => intro acc; have := ih (addNew acc d); have := addNew_len acc d; simp only [List.foldl_cons, List.length_cons]; omega
theorem dedupL_len {α : Type} [DecidableEq α] (ds : List α) : (dedupL ds).length ≤ ds.length := by
  have := foldl_addNew_len ds []; simpa [dedupL] using this

section
variable {prog : Program} {w : World} {A : Around} {X : List Addr} {h : Heap}
theorem c_dedup {k : Nat} {a : Addr} {α : Type} [DecidableEq α] {R : α → Pr} {n : Nat} {ds : List α} {v : Value} (hA : Ok (k + 1) A) (lim : h.NoLimit) (fn : IsFn h 4 a) (g : ∀ d, GR (R d)) (Er : EqR R n) (hn : n ≤ 10) (hsz : ds.length ≤ 1000000)
    (rv : LsR R ds X h v) : Ev prog w A X h (call (.ref a) [v]) (LsR R (dedupL ds)) := by
  refine call_fn hA lim fn (binds := [(Str.ofString "unhashable_params", v)]) (fun _ _ _ _ _ _ _ => rfl) ?_ ?_ rfl rfl rfl
  · intro L x hx; rw [List.mem_singleton.mp hx]; exact .inl rfl
  intro Y s q cd L h₁ tk le al kp₀ F hA'
  have rv1 : LsR R ds Y h₁ v := (gr_ls g ds).up (le.step kp₀).lw rv
  refine wpAny_execs_cons (as_new (s := { s with heap := h₁, toks := tk }) (R := R) F (al.up kp₀) (nw_nil g) g (fun v => .loc rfl) rfl rfl ?_)
  rintro a vs h₂ t₂ na aL aC F₂ sx₂ lw₂ al₂ hl₂ hx₂
  cases hx₂
  have rv2 : LsR R ds (a :: Y) h₂ v := (gr_ls g ds).up lw₂ rv1
  have na0 : s.heap.get? a = none := kp₀.none na
  refine wpAny_execs_cons (st_for (s := { s with heap := h₂, toks := t₂ }) (Ms := [a]) (R := R) (ds := ds)
    (fun I i h m cm => ∃ vs, m (Str.ofString "new_unhashable") = some (.ref a) ∧ h.PlainList a vs.toArray ∧ All2 (fun u d => R d (I :: a :: Y) h u) vs (dedupL (ds.take i)))
    (fun v m => upd m (Str.ofString "t") v) (fun v cm => cm) F₂ al₂ Al.nil (by simp) (ev_name (.loc rfl F₂.ns rfl) (gr_ls g ds) rv2 rfl (by decide)) (fun Z h' v' le' r => ev_iter_list hA'.handled g r) g (fun _ _ _ => .loc rfl) rfl ?_ ?_ ?_ ?_ (fun _ => rfl))
  · rintro I i h h' m cm nI ⟨vs, hm, hl, hx⟩ kb lw
    have haI : a ≠ I := by rintro rfl; obtain ⟨n, e⟩ := hl₂; rw [nI] at e; cases e
    exact ⟨vs, hm, hl.at fun o e => kb a o haI aL aC e, hx.imp fun u d _ _ r => (g d).up (lw _ (List.mem_cons_self)) r⟩
  · intro I h' nI kp
    exact ⟨[], rfl, hl₂.at fun o e => kp a o e, by simpa [dedupL] using All2.nil⟩
  · rintro I i d u h tk m₁ cm₁ nI hd sx alI ru FF ⟨vs, hm, hl, hx⟩
    have hlen : vs.length ≤ 1000000 := by
      have := hx.length; have := dedupL_len (ds.take i); have : (ds.take i).length ≤ ds.length := by simp [List.length_take]; omega
      omega
    have alY : Al (I :: Y) h := fun b hb => alI b (by rcases List.mem_cons.mp hb with rfl | hb; exact .head _; exact .tail _ (.tail _ hb))
    have sub : ∀ b ∈ I :: Y, b ∈ I :: a :: Y := fun b hb => by rcases List.mem_cons.mp hb with rfl | hb; exact .head _; exact .tail _ (.tail _ hb)
    have haI : a ≠ I := by rintro rfl; obtain ⟨n, e⟩ := hl₂; rw [nI] at e; cases e
    have rl : LsR R (dedupL (ds.take i)) (I :: Y) h (.ref a) := ⟨a, vs, rfl, by simpa [haI] using al.not na0, hl, hx.imp fun u d _ _ r => (g d).up (Lw.sub sub) r⟩
    have hm' : upd m₁ (Str.ofString "t") u (Str.ofString "new_unhashable") = some (.ref a) := hm
    refine wpAny_execs_cons (wpAny_If ((tr_Cmp (X := I :: Y) (h := h) (ev_name (.loc rfl FF.ns rfl) (g d) ((g d).up (Lw.sub sub) ru) rfl (by decide)) (g d) (ev_name (.loc rfl FF.ns hm') (gr_ls g _) rl rfl (by decide))
      (fun Z h' x y l ra rb => op_notIn Er g (hA'.cline _ (by omega)) ra rb) rfl).here (s := { s with heap := h, toks := tk }) alY fun b h' tk' kp rb => ?_))
    obtain rfl := rb
    have F' := FF.kp kp
    by_cases hmem : d ∈ dedupL (ds.take i)
    · rw [decide_eq_true hmem]
      refine wpAny_execs_nil (wpAny_execs_nil ⟨rfl, h', tk', _, _, rfl, F', Sx.of_kp kp, vs, hm, hl.at fun o e => kp a o e, ?_⟩)
      rw [dedupL_take hd, addNew, if_pos hmem]
      exact hx.imp fun u d _ _ r => (g d).up (Le.of_kp kp).lw r
    · rw [decide_eq_false hmem]
      refine wpAny_execs_cons (st_append (s := { s with heap := h', toks := tk' }) (X := I :: a :: Y) (R := R d) F' (alI.up kp) (by simp) na0 (hl.at fun o e => kp a o e) (.loc rfl F'.ns hm') (ev_name (.loc rfl F'.ns rfl) (g d) ((g d).up (Le.of_kp kp).lw ru) rfl (by decide)) (g d) (by rw [sizeLine_eq]; omega) ?_ rfl (by decide) rfl rfl rfl rfl rfl)
      intro u' h'' tk'' F'' sx'' al'' hl'' r''
      refine wpAny_execs_nil (wpAny_execs_nil ⟨rfl, h'', tk'', _, _, rfl, F'', (Sx.of_kp kp).trans sx'', vs ++ [u'], hm, hl'', ?_⟩)
      rw [dedupL_take hd, addNew, if_neg hmem]
      have lw : Lw (I :: a :: Y) h (I :: a :: Y) h'' := ((Sx.of_kp kp).trans sx'').up (by simp)
      exact (hx.imp fun u d _ _ r => (g d).up lw r).snoc r''
  · rintro I h₃ t₃ m₁ cm₁ nI F₃ sx ⟨vs, hm, hl, hx⟩
    refine wpAny_execs_cons (wpAny_Return_some (see_load (s := { s with heap := h₃, toks := t₃ }) (.loc rfl F₃.ns hm) rfl (by decide) ?_))
    rw [List.take_length] at hx
    exact ⟨.ref a, h₃, t₃, rfl, rfl, F₃.kept, a, vs, rfl, al.not na0, hl, hx.imp fun u d _ _ r => (g d).up (Lw.sub fun b hb => by simp [hb]) r⟩
end
end Mine
end

section
set_option maxRecDepth 100000
namespace Mine
open PySem PySem.W PyProof.Rows PySem.Calls PySem.SeqAt

section
variable {prog : Program} {w : World} {A : Around} {X : List Addr} {h : Heap} {fa : Nat → Addr} {env : Env} {pos : Pos}

theorem b_list {α : Type} {R : α → Pr} {ds : List α} {v : Value} (g : ∀ d, GR (R d)) (rv : LsR R ds X h v) (hsz : ds.length ≤ sizeLine) : Ev prog w A X h (call (.type "list") [v]) (NwR h R ds) := fun Y s al le => by
  obtain ⟨a, vs, rfl, na, ⟨n, e⟩, hx⟩ := (gr_ls g ds).up le.lw rv
  refine call_list_seq a (.inl rfl) e rfl rfl (fun h' c' kp e' => ⟨h', s.toks, rfl, kp, s.heap.objs.size, vs, rfl, le.kp.none (get_size _), ⟨c', e'⟩, hx.imp fun u d _ _ r => (g d).up (Le.add kp (get_size _)).lw r⟩) ?_
  simp [hx.length]; exact hsz
theorem op_ltruthy {α : Type} {R : α → Pr} {ds : List α} {v : Value} (g : ∀ d, GR (R d)) (rv : LsR R ds X h v) (hsz : ds.length ≤ sizeLine) : Ev prog w A X h (truthy v) (IsB (!ds.isEmpty)) := fun Y s al le => by
  obtain ⟨a, vs, rfl, na, hl, hx⟩ := (gr_ls g ds).up le.lw rv
  have e := hx.length
  rw [sizeLine_eq] at hsz
  refine wpAny_truthy_list hl.isList (by simp; omega) ⟨_, _, rfl, Kp.refl _, ?_⟩
  cases hx <;> simp [IsB]
theorem ev_Not {e : Expr} {R : Pr} {c : Bool} (he : Ev prog w A X h (eval e env) R) (ht : ∀ Y h' v, R Y h' v → Ev prog w A Y h' (truthy v) (IsB c)) : Ev prog w A X h (eval (.UnaryOp .Not e pos) env) (BoolR (!c)) := fun Y s al le =>
  wpAny_UnaryOp (he.use al le fun v h₁ t₁ k₁ r => by
    unfold unaryOp
    refine wpAny_holding ?_
    show wpAny _ _ (do return Value.bool (!(← truthy v))) _ _ _
    exact wpAny_bind ((ht Y h₁ v r).here (s := { s with heap := h₁, toks := t₁ }) (al.up k₁) fun b h₂ t₂ k₂ rb => wpAny_pure ⟨h₂, t₂, rfl, k₁.trans k₂, by obtain rfl := rb; rfl⟩))

theorem dedup_mem {α : Type} [DecidableEq α] (ds : List α) : ∀ (acc : List α) (d : α), d ∈ ds.foldl addNew acc ↔ d ∈ acc ∨ d ∈ ds := by
  induction ds with
  | nil => simp
  | cons x ds ih =>
    intro acc d
    rw [List.foldl_cons, ih]
    unfold addNew
    split
    · rename_i hx
      constructor
      · rintro (h1 | h1)
        · exact .inl h1
        · exact .inr (.tail _ h1)
      · rintro (h1 | h1)
        · exact .inl h1
        · rcases List.mem_cons.mp h1 with rfl | h1
          · exact .inl hx
          · exact .inr h1
    · simp only [List.mem_append, List.mem_cons, List.not_mem_nil, or_false]
      constructor
      · rintro ((h1 | h1) | h1)
        · exact .inl h1
        · exact .inr (.inl h1)
        · exact .inr (.inr h1)
      · rintro (h1 | h1 | h1)
        · exact .inl (.inl h1)
        · exact .inl (.inr h1)
        · exact .inr h1
theorem mem_dedupL {α : Type} [DecidableEq α] {ds : List α} {d : α} : d ∈ dedupL ds ↔ d ∈ ds := by simp [dedupL, dedup_mem]
theorem dedup_nodup {α : Type} [DecidableEq α] (ds : List α) : ∀ acc : List α, acc.Nodup → (ds.foldl addNew acc).Nodup := by
  induction ds with
  | nil => intro acc h; exact h
  | cons x ds ih =>
    intro acc h
    refine ih _ ?_
    unfold addNew
    split
    · exact h
    · rename_i hx
      rw [List.nodup_append]
      exact ⟨h, by simp, by intro a ha b hb; rw [List.mem_singleton.mp hb]; rintro rfl; exact hx ha⟩
theorem nodup_dedupL {α : Type} [DecidableEq α] (ds : List α) : (dedupL ds).Nodup := dedup_nodup ds [] List.nodup_nil

def eraseAll {α : Type} [DecidableEq α] (ss fs : List α) : List α := fs.foldl List.erase ss
theorem eraseAll_len {α : Type} [DecidableEq α] (fs : List α) : ∀ ss : List α, (eraseAll ss fs).length ≤ ss.length := by
  induction fs with
  | nil => intro ss; exact Nat.le_refl _
  | cons f fs ih => intro ss; exact Nat.le_trans (ih _) (List.length_erase_le)

theorem mem_eraseAll {α : Type} [DecidableEq α] {d : α} (es : List α) : ∀ ss : List α, d ∉ es → d ∈ ss → d ∈ eraseAll ss es := by
  induction es with
  | nil => intro ss _ h; exact h
  | cons e es ih =>
    intro ss hd h
    exact ih _ (fun q => hd (.tail _ q)) ((List.mem_erase_of_ne (fun (q : d = e) => hd (by rw [q]; exact List.mem_cons_self))).mpr h)
theorem notMem_take {α : Type} {l : List α} (hn : l.Nodup) {i : Nat} {d : α} (hd : l[i]? = some d) : d ∉ l.take i := by
  intro hm
  obtain ⟨j, hj⟩ := List.getElem?_of_mem hm
  have hlt : j < i := by
    have := (List.getElem?_eq_some_iff.mp hj).1
    rw [List.length_take] at this; omega
  rw [List.getElem?_take_of_lt hlt] at hj
  obtain ⟨h1, e1⟩ := List.getElem?_eq_some_iff.mp hj
  obtain ⟨h2, e2⟩ := List.getElem?_eq_some_iff.mp hd
  exact (List.pairwise_iff_getElem.mp hn j i h1 h2 hlt) (e1.trans e2.symm)
/-- what _compare_args_orderless says, where all of the first are among the second -/
theorem c_orderless {k : Nat} {α : Type} [DecidableEq α] {R : α → Pr} {n : Nat} {fs ss : List α} {v₁ v₂ : Value} (hA : Ok (k + 2) A) (B : Bs fa h) (g : ∀ d, GR (R d)) (Er : EqR R n) (hn : n ≤ 10) (h1 : fs.length ≤ 1000000) (h2 : ss.length ≤ 1000000)
    (hsub : ∀ d ∈ fs, d ∈ ss) (r1 : LsR R fs X h v₁) (r2 : LsR R ss X h v₂) : Ev prog w A X h (call (.ref (fa 5)) [v₁, v₂]) (BoolR (eraseAll (dedupL ss) (dedupL fs)).isEmpty) := by
  refine call_fn (k := k + 1) hA B.lim (B.fn 5 (by decide)) (binds := [(Str.ofString "first_args", v₁), (Str.ofString "second_args", v₂)]) (fun _ _ _ _ _ _ _ => rfl) ?_ ?_ rfl rfl rfl
  · intro L x hx
    rcases List.mem_cons.mp hx with rfl | hx
    · exact .inl rfl
    · rw [List.mem_singleton.mp hx]; exact .inl rfl
  intro Y s q cd L h₁ tk le al kp₀ F hA'
  have B1 : Bs fa h₁ := B.up (le.step kp₀).kp
  have r11 : LsR R fs Y h₁ v₁ := (gr_ls g fs).up (le.step kp₀).lw r1
  have r21 : LsR R ss Y h₁ v₂ := (gr_ls g ss).up (le.step kp₀).lw r2
  have hs1 : (dedupL fs).length ≤ 1000000 := Nat.le_trans (dedupL_len _) h1
  have hs2 : (dedupL ss).length ≤ 1000000 := Nat.le_trans (dedupL_len _) h2
  have sl : ∀ {n : Nat}, n ≤ 1000000 → n ≤ sizeLine := fun h => by rw [sizeLine_eq]; omega
  refine wpAny_execs_cons (as_name (s := { s with heap := h₁, toks := tk }) (R := LsR R (dedupL fs)) F (al.up kp₀)
    (ev_callD 4 B1 (by decide) (by decide) (ev_args_cons (ev_name (.loc rfl F.ns rfl) (gr_ls g fs) r11 rfl (by decide)) (gr_ls g fs) ev_args_nil rfl) (fun Z h' vs l B' r => by
        obtain ⟨v, us, rfl, r, rfl⟩ := r
        exact c_dedup hA' B'.lim (B'.fn 4 (by decide)) g Er hn h1 r) rfl rfl rfl (by decide) rfl) (gr_ls g _) (fun v => .loc rfl) rfl rfl ?_)
  intro u₁ h₂ t₂ F₂ sx₂ al₂ rf
  have B2 : Bs fa h₂ := B.up (le.kp.trans F₂.kept)
  have r22 : LsR R ss Y h₂ v₂ := (gr_ls g ss).up (sx₂.up (by simp)) r21
  refine wpAny_execs_cons (as_name (s := { s with heap := h₂, toks := t₂ }) (R := LsR R (dedupL ss)) F₂ al₂
    (ev_callD 4 B2 (by decide) (by decide) (ev_args_cons (ev_name (.loc rfl F₂.ns rfl) (gr_ls g ss) r22 rfl (by decide)) (gr_ls g ss) ev_args_nil rfl) (fun Z h' vs l B' r => by
        obtain ⟨v, us, rfl, r, rfl⟩ := r
        exact c_dedup hA' B'.lim (B'.fn 4 (by decide)) g Er hn h2 r) rfl rfl rfl (by decide) rfl) (gr_ls g _) (fun v => .loc rfl) rfl rfl ?_)
  intro u₂ h₃ t₃ F₃ sx₃ al₃ rs
  have B3 : Bs fa h₃ := B.up (le.kp.trans F₃.kept)
  have rf3 : LsR R (dedupL fs) Y h₃ u₁ := (gr_ls g _).up (sx₃.up (by simp)) rf
  refine wpAny_execs_cons (as_new (s := { s with heap := h₃, toks := t₃ }) (R := R) (ds := dedupL ss) F₃ al₃
    (ev_callT (B3.b (v := .type "list") (by decide) rfl rfl rfl) (ev_args_cons (ev_name (.loc rfl F₃.ns rfl) (gr_ls g _) rs rfl (by decide)) (gr_ls g _) ev_args_nil rfl) (fun Z h' vs l r => by
        obtain ⟨v, us, rfl, r, rfl⟩ := r
        refine (b_list g r (sl hs2)).mono fun Z' h'' v l' r' => ?_
        obtain ⟨a, vs, e, n0, r'⟩ := r'
        exact ⟨a, vs, e, l.kp.none n0, r'⟩) rfl (by decide) rfl rfl) g (fun v => .loc rfl) rfl rfl ?_)
  rintro a vs h₄ t₄ na aL aC F₄ sx₄ lw₄ al₄ hl₄ hx₄
  have na0 : s.heap.get? a = none := F₃.base.off na
  have rf4 : LsR R (dedupL fs) (a :: Y) h₄ u₁ := (gr_ls g _).up lw₄ rf3
  refine wpAny_execs_cons (wpAny_Try_except (wpAny_execs_cons (st_for (s := { s with heap := h₄, toks := t₄ }) (Ms := [a]) (R := R) (ds := dedupL fs)
    (fun I i h m cm => ∃ vs, m (Str.ofString "t") = some (.ref a) ∧ h.PlainList a vs.toArray ∧ All2 (fun u d => R d (I :: a :: Y) h u) vs (eraseAll (dedupL ss) ((dedupL fs).take i)))
    (fun v m => upd m (Str.ofString "elem") v) (fun v cm => cm) F₄ al₄ Al.nil (by simp) (ev_name (.loc rfl F₄.ns rfl) (gr_ls g _) rf4 rfl (by decide)) (fun Z h' v' le' r => ev_iter_list hA'.handled g r) g (fun _ _ _ => .loc rfl) rfl ?_ ?_ ?_ ?_ (fun _ => rfl))))
  · rintro I i h h' m cm nI ⟨vs, hm, hl, hx⟩ kb lw
    have haI : a ≠ I := by rintro rfl; obtain ⟨n, e⟩ := hl₄; rw [nI] at e; cases e
    exact ⟨vs, hm, hl.at fun o e => kb a o haI aL aC e, hx.imp fun u d _ _ r => (g d).up (lw _ (List.mem_cons_self)) r⟩
  · intro I h' nI kp
    exact ⟨vs, rfl, hl₄.at fun o e => kp a o e, hx₄.imp fun u d _ _ r => (g d).up (Le.add kp nI).lw r⟩
  · rintro I i d u h tk m₁ cm₁ nI hd sx alI ru FF ⟨vs, hm, hl, hx⟩
    have hm' : upd m₁ (Str.ofString "elem") u (Str.ofString "t") = some (.ref a) := hm
    have htk : (dedupL fs).take (i + 1) = (dedupL fs).take i ++ [d] := by rw [List.take_add_one, hd]; rfl
    have hmem : d ∈ eraseAll (dedupL ss) ((dedupL fs).take i) :=
      mem_eraseAll _ _ (notMem_take (nodup_dedupL fs) hd) (mem_dedupL.mpr (hsub d (mem_dedupL.mp (List.mem_of_getElem? hd))))
    refine wpAny_execs_cons (st_remove (s := { s with heap := h, toks := tk }) (X := I :: a :: Y) (R := R) (d := d) FF alI (by simp) na0 hl hx (.loc rfl FF.ns hm') (ev_name (.loc rfl FF.ns rfl) (g d) ru rfl (by decide)) g Er (hA'.cline _ (by omega)) hmem (sl (Nat.le_trans (eraseAll_len _ _) hs2)) ?_ rfl (by decide) rfl rfl rfl rfl rfl)
    intro us h'' tk'' F'' sx'' al'' hl'' hx''
    refine wpAny_execs_nil ⟨rfl, h'', tk'', _, _, rfl, F'', sx'', us, hm, hl'', ?_⟩
    rw [htk, eraseAll, List.foldl_append]
    exact hx''
  · rintro I h₅ t₅ m₁ cm₁ nI F₅ sx ⟨vs, hm, hl, hx⟩
    rw [List.take_length] at hx
    have rt : LsR R (eraseAll (dedupL ss) (dedupL fs)) Y h₅ (.ref a) := ⟨a, vs, rfl, al.not na0, hl, hx.imp fun u d _ _ r => (g d).up (Lw.sub fun b hb => by simp [hb]) r⟩
    refine wpAny_execs_nil (wpAny_execs_nil (wpAny_execs_cons (wpAny_Return_some ((ev_Not (X := Y) (h := h₅) (ev_name (.loc rfl F₅.ns hm) (gr_ls g _) rt rfl (by decide)) (fun Z h' v r => op_ltruthy g r (sl (Nat.le_trans (eraseAll_len _ _) hs2)))).here (s := { s with heap := h₅, toks := t₅ }) (al.up F₅.kept) fun v h₆ t₆ k₆ r => ?_))))
    exact ⟨v, h₆, t₆, rfl, rfl, F₅.kept.trans k₆, by rw [Bool.not_not] at r; exact r⟩
end
end Mine
end

section
namespace Mine
open PySem PySem.W PyProof.Rows PySem.Calls PySem.SeqAt
set_option maxRecDepth 100000

/-! bytes: join -/
theorem takeBuf (b : Array UInt8) (t : Tok) : Builtin.Bytes.takeBufferQuiet? "bytes.join" (.bytes b t) 0 = pure (some (b, none)) := by kernel_rfl
theorem joinLetGo_none {M : Model} {A : Around} {E : Value → Shared → Prop} {s : Shared} {Q : Unit → Shared → Prop} (keep : List Value) : ∀ (vs : List Value), Q () s → wpAny M A (Builtin.Bytes.joinLetGo (vs.map fun v => (v, none)) keep) Q E s
  | [], h => wpAny_pure h
  | v :: vs, h => by
    show wpAny M A (do letGo (v :: (none : Option Value).toList) _; Builtin.Bytes.joinLetGo (vs.map fun v => (v, none)) keep) Q E s
    refine wpAny_bind ?_
    show wpAny M A (do holding ([] ++ _) point; pure ()) _ _ s
    exact wpAny_bind (wpAny_holding (wpAny_point (wpAny_pure (joinLetGo_none keep vs h))))
def IsBy (v : Value) (b : Array UInt8) : Prop := ∃ t, v = .bytes b t
theorem bytes_join (l : Addr) (n : Nat) (sep : Array UInt8) (u : Tok) (vs : List Value) (bs : List (Array UInt8)) (hv : All2 IsBy vs bs) (hne : vs ≠ []) (hsz : (bs.foldl (· + ·.size) (sep.size * (bs.length - 1))) ≤ sizeLine) (hsz2 : (Builtin.Bytes.joined sep bs).size ≤ sizeLine) :
    Meets (Builtin.«bytes.join» ⟨[.bytes sep u, .ref l], []⟩) (fun _ R s => s.heap.get? l = some { cls := .type "list", dict := none, data := .seq vs.toArray n, slots := #[] } ∧
      ∀ tk t', R (.ok (.ret (.bytes (Builtin.Bytes.joined sep bs) t'))) { s with toks := tk }) := by
  intro prog w A R s h
  obtain ⟨hl, h⟩ := h
  have hty : ∀ {Q : Value → Shared → Prop} {E : Value → Shared → Prop}, Q (.type "list") s → wpAny (model prog w) A.in1 (typeOf (.ref l)) Q E s := fun q => by
    show wpAny _ _ (load l >>= fun o => _) _ _ _
    exact wpAny_bind (wpAny_load hl (wpAny_pure q))
  have hseq : ∀ {Q : Option (Array Value) → Shared → Prop} {E : Value → Shared → Prop}, Q (some vs.toArray) s → wpAny (model prog w) A.in1 (seqItems? (.ref l)) Q E s := fun q => wpAny_seqItems hl rfl q
  show wpAny _ _ (Builtin.Bytes.joinM .bytes ⟨[.bytes sep u, .ref l], []⟩) _ _ s
  unfold Builtin.Bytes.joinM
  refine wpAny_bind (m := selfAndOne _ _) (wpAny_pure ?_)
  have hji : ∀ {Q : Value → Shared → Prop} {E : Value → Shared → Prop}, Q (.ref l) s → wpAny (model prog w) A.in1 (Builtin.Bytes.joinItems (.ref l)) Q E s := fun q => by
    unfold Builtin.Bytes.joinItems
    refine wpAny_bind (hty ?_)
    exact wpAny_pure q
  refine wpAny_bind (hji ?_)
  refine wpAny_bind (hseq ?_)
  dsimp only
  rw [if_pos (show (Builtin.Bytes.Kind.bytes == Builtin.Bytes.Kind.bytes) = true from rfl)]
  by_cases h1 : vs.length = 1
  · obtain ⟨x, rfl⟩ := List.length_eq_one_iff.mp h1
    cases hv with
    | cons h1 h2 =>
      cases h2
      obtain ⟨t, rfl⟩ := h1
      refine wpAny_bind (m := typeOf _) (wpAny_pure ?_)
      rw [if_pos (show (Value.type "bytes" == Value.type "bytes") = true from rfl)]
      refine wpAny_bind (wpAny_rule (wpAny_pure ?_))
      rename_i b
      have e : Builtin.Bytes.joined sep [b] = b := by simp [Builtin.Bytes.joined]
      have := h s.toks t
      rw [e] at this
      exact this
  · obtain ⟨v1, v2, r, rfl⟩ : ∃ v1 v2 r, vs = v1 :: v2 :: r := by
      rcases vs with _ | ⟨v1, _ | ⟨v2, r⟩⟩
      · exact absurd rfl hne
      · exact absurd rfl h1
      · exact ⟨v1, v2, r, rfl⟩
    refine wpAny_bind ?_
    generalize hvs : v1 :: v2 :: r = vs at *
    rw [KPc.range_list]
    have hlen := hv.length
    refine (wpAny_forIn_list _ (fun rest c s' => ∃ i, i ≤ vs.length ∧ rest = List.range' i (vs.length - i) 1 ∧ c = ((bs.take i).toArray, (vs.take i).map fun v => (v, none)) ∧ s' = s) _ ?_ ?_ _ _ ⟨0, Nat.zero_le _, by simp, by simp, rfl⟩)
    · rintro i rest c s' ⟨j, hj, e1, rfl, rfl⟩
      have hj' : j < vs.length := by
        rcases Nat.lt_or_ge j vs.length with q | q
        · exact q
        · rw [Nat.sub_eq_zero_of_le q] at e1; simp at e1
      obtain ⟨k, hk⟩ : ∃ k, vs.length - j = k + 1 := ⟨vs.length - j - 1, by omega⟩
      rw [hk, List.range'_succ] at e1
      injection e1 with e1 e2
      subst e1
      have hb : vs.toArray.getD i Value.none = vs[i] := by simp [hj']
      obtain ⟨b, hbs, t, hvb⟩ := hv.get (List.getElem?_eq_getElem hj')
      refine wpAny_bind (hseq ?_)
      dsimp only
      rw [if_neg (show ¬ _ from fun q => by
        rw [show (Builtin.Bytes.Kind.bytes == Builtin.Bytes.Kind.bytearray) = false from rfl, Bool.false_or] at q
        obtain ⟨y, hy, q⟩ := List.any_eq_true.mp q
        obtain ⟨a, ha, rfl⟩ := List.mem_map.mp hy
        obtain ⟨b', _, t', e'⟩ := hv.mem (List.mem_of_mem_take ha)
        subst e'; cases q), hb, hvb]
      refine wpAny_bind (wpAny_holding (wpAny_of_eq (takeBuf b t) ?_))
      refine wpAny_bind (hseq ?_)
      dsimp only
      rw [if_neg (by simp)]
      refine wpAny_pure ⟨i + 1, hj', ?_, ?_, rfl⟩
      · rw [e2]; congr 1; omega
      · rw [List.take_add_one, hbs, List.take_add_one, List.getElem?_eq_getElem hj', hvb]
        simp
    · rintro c s' ⟨j, hj, e1, rfl, rfl⟩
      have : j = vs.length := by
        rcases Nat.lt_or_ge j vs.length with q | q
        · obtain ⟨k, hk⟩ : ∃ k, vs.length - j = k + 1 := ⟨vs.length - j - 1, by omega⟩
          rw [hk, List.range'_succ] at e1; cases e1
        · omega
      subst this
      rw [List.take_length, hlen, List.take_length]
      dsimp only
      refine wpAny_bind (m := Builtin.Bytes.payload _) (wpAny_pure ?_)
      rw [if_neg (by simp [Builtin.Bytes.tooLong]; exact hsz)]
      refine wpAny_bind (m := Builtin.Bytes.Kind.bytes.new _) ?_
      show wpAny _ _ (mkBytes _) _ _ _
      unfold mkBytes
      rw [if_neg (Nat.not_lt.mpr hsz2)]
      refine wpAny_bind (wpAny_fresh (wpAny_pure ?_))
      refine wpAny_bind (wpAny_holding (wpAny_point ?_))
      refine wpAny_bind (joinLetGo_none _ _ ?_)
      exact wpAny_pure (h _ _)
end Mine
end

section
namespace Mine
open PySem PySem.W PyProof.Rows PySem.Calls PySem.SeqAt
set_option maxRecDepth 100000

/-! the fifteen words, their paths -/
def W15 : List (List Nat) := [[], [97], [98], [97, 97], [97, 98], [98, 97], [98, 98], [97, 97, 97], [97, 97, 98], [97, 98, 97], [97, 98, 98], [98, 97, 97], [98, 97, 98], [98, 98, 97], [98, 98, 98]]
def pth (w : List Nat) : List Nat := w.flatMap fun c => [47, c]
def bArr (l : List Nat) : Array UInt8 := (l.map Nat.toUInt8).toArray
def parts (w : List Nat) : List (List Nat) := [] :: w.map fun c => [c]

theorem mapM_cons' {α β : Type} (f : α → Sem β) (a : α) (l : List α) : (a :: l).mapM f = (do let b ← f a; let bs ← l.mapM f; pure (b :: bs)) := List.mapM_cons
theorem enc_all : ∀ w ∈ W15, ∀ t : Tok, Builtin.«str.encode» ⟨[.str ⟨(pth w).toArray⟩ t], []⟩ = (do ret (← mkBytes (bArr (pth w)))) := by
  simp only [W15, List.forall_mem_cons, List.forall_mem_nil]
  refine ⟨?_, ?_, ?_, ?_, ?_, ?_, ?_, ?_, ?_, ?_, ?_, ?_, ?_, ?_, ?_, ?_⟩
  all_goals first | (intro t; kernel_rfl) | (intro x hx; cases hx)
def mkTx (o : Bool) (l : List Nat) : Sem Value := match o with | false => mkStr ⟨l.toArray⟩ | true => mkBytes (bArr l)
theorem ssplit_all : ∀ w ∈ W15.tail, ∀ t u : Tok, Builtin.«str.split» ⟨[.str ⟨(pth w).toArray⟩ t, .str ⟨#[47]⟩ u], []⟩ = (do let vs ← (parts w).mapM (mkTx false); ret (← newList vs)) := by
  simp only [W15, List.tail_cons, List.forall_mem_cons, List.forall_mem_nil]
  refine ⟨?_, ?_, ?_, ?_, ?_, ?_, ?_, ?_, ?_, ?_, ?_, ?_, ?_, ?_, ?_⟩
  all_goals first | (intro t u; kernel_rfl) | (intro x hx; cases hx)
theorem bsplit_all : ∀ w ∈ W15.tail, ∀ t u : Tok, Builtin.«bytes.split» ⟨[.bytes (bArr (pth w)) t, .bytes #[47] u], []⟩ = (do let vs ← (parts w).mapM (mkTx true); ret (← newList vs)) := by
  simp only [W15, List.tail_cons, List.forall_mem_cons, List.forall_mem_nil]
  refine ⟨?_, ?_, ?_, ?_, ?_, ?_, ?_, ?_, ?_, ?_, ?_, ?_, ?_, ?_, ?_⟩
  all_goals first | (intro t u; kernel_rfl) | (intro x hx; cases hx)
theorem bsplit_nil (t u : Tok) : Builtin.«bytes.split» ⟨[.bytes #[] t, .bytes #[47] u], []⟩ = (do rule "bytes.split.no-separator"; ret (← newList [.bytes #[] t])) := by kernel_rfl

theorem slot_bytes_split : Slot "bytes" "split" "bytes.split" :=
  .of (owner := "bytes") (n := "split") (by rw [typeLookup_type, builtinLookup_eq_fast]; kernel_rfl) (by decide +kernel) (by decide +kernel) (by decide +kernel)
    (by first | exact .inl (by decide +kernel) | exact .inr (by decide +kernel)) (by rw [isSubtype_type]; kernel_rfl)
theorem type_bytes_split : typeOf (.builtin "bytes.split") = pure (.type "method_descriptor") := by show builtinType _ = _; rw [builtinType_eq_fast]; kernel_rfl
theorem entry_bytes_split : entryFor table "bytes.split" = some Builtin.«bytes.split» := entryFor_of_tree (by kernel_rfl)
theorem args_bytes_split_2 (a b : Value) : argsOk "bytes.split" ⟨[a, b], []⟩ := by
  unfold argsOk; rw [signature?_of (id := "bytes.split") (n := ['t', 'i', 'l', 'p', 's']) (o := ['s', 'e', 't', 'y', 'b']) (by kernel_rfl) FB.owner_bytes]; kernel_rfl
theorem slot_bytes_join : Slot "bytes" "join" "bytes.join" :=
  .of (owner := "bytes") (n := "join") (by rw [typeLookup_type, builtinLookup_eq_fast]; kernel_rfl) (by decide +kernel) (by decide +kernel) (by decide +kernel)
    (by first | exact .inl (by decide +kernel) | exact .inr (by decide +kernel)) (by rw [isSubtype_type]; kernel_rfl)
theorem type_bytes_join : typeOf (.builtin "bytes.join") = pure (.type "method_descriptor") := by show builtinType _ = _; rw [builtinType_eq_fast]; kernel_rfl
theorem entry_bytes_join : entryFor table "bytes.join" = some Builtin.«bytes.join» := entryFor_of_tree (by kernel_rfl)
theorem args_bytes_join_2 (a b : Value) : argsOk "bytes.join" ⟨[a, b], []⟩ := by
  unfold argsOk; rw [signature?_of (id := "bytes.join") (n := ['n', 'i', 'o', 'j']) (o := ['s', 'e', 't', 'y', 'b']) (by kernel_rfl) FB.owner_bytes]; kernel_rfl
theorem slot_bytes_lt : Slot "bytes" (cmpInfo .Lt).2.1 "bytes.__lt__" :=
  .of (owner := "bytes") (n := "__lt__") (by rw [typeLookup_type, builtinLookup_eq_fast]; kernel_rfl) (by decide +kernel) (by decide +kernel) (by decide +kernel)
    (by first | exact .inl (by decide +kernel) | exact .inr (by decide +kernel)) (by rw [isSubtype_type]; kernel_rfl)
theorem entry_bytes_lt : entryFor table "bytes.__lt__" = some Builtin.«bytes.__lt__» := entryFor_of_tree (by kernel_rfl)
theorem args_bytes_lt_2 (a b : Value) : argsOk "bytes.__lt__" ⟨[a, b], []⟩ := by
  unfold argsOk; rw [signature?_of (id := "bytes.__lt__") (n := ['_', '_', 't', 'l', '_', '_']) (o := ['s', 'e', 't', 'y', 'b']) (by kernel_rfl) FB.owner_bytes]; kernel_rfl
theorem slot_bytes_gt : Slot "bytes" (cmpInfo .Gt).2.1 "bytes.__gt__" :=
  .of (owner := "bytes") (n := "__gt__") (by rw [typeLookup_type, builtinLookup_eq_fast]; kernel_rfl) (by decide +kernel) (by decide +kernel) (by decide +kernel)
    (by first | exact .inl (by decide +kernel) | exact .inr (by decide +kernel)) (by rw [isSubtype_type]; kernel_rfl)
theorem entry_bytes_gt : entryFor table "bytes.__gt__" = some Builtin.«bytes.__gt__» := entryFor_of_tree (by kernel_rfl)
theorem args_bytes_gt_2 (a b : Value) : argsOk "bytes.__gt__" ⟨[a, b], []⟩ := by
  unfold argsOk; rw [signature?_of (id := "bytes.__gt__") (n := ['_', '_', 't', 'g', '_', '_']) (o := ['s', 'e', 't', 'y', 'b']) (by kernel_rfl) FB.owner_bytes]; kernel_rfl

/-! the order of texts -/
theorem order_lt : ∀ a b : List UInt8, (Builtin.Bytes.order a b == .lt) = decide (a.map UInt8.toNat < b.map UInt8.toNat)
  | [], [] => by simp [Builtin.Bytes.order]
  | [], _ :: _ => by simp [Builtin.Bytes.order]
  | _ :: _, [] => by simp [Builtin.Bytes.order]
  | x :: a, y :: b => by
    have ih := order_lt a b
    simp only [Builtin.Bytes.order, List.map_cons, List.cons_lt_cons_iff]
    by_cases h1 : x < y
    · have : x.toNat < y.toNat := h1
      simp [h1, this]
    · by_cases h2 : x > y
      · have h2' : y.toNat < x.toNat := h2
        have h3 : ¬ x.toNat < y.toNat := by omega
        have h4 : x.toNat ≠ y.toNat := by omega
        simp [h1, h2, h3, h4]
      · have : x = y := UInt8.le_antisymm (UInt8.not_lt.mp h2) (UInt8.not_lt.mp h1)
        subst this
        simp [UInt8.lt_irrefl, ih]
theorem order_gt (a b : List UInt8) : (Builtin.Bytes.order a b == .gt) = decide (b.map UInt8.toNat < a.map UInt8.toNat) := by
  rw [← order_lt]
  induction a generalizing b with
  | nil => cases b <;> simp [Builtin.Bytes.order]
  | cons x a ih =>
    cases b with
    | nil => simp [Builtin.Bytes.order]
    | cons y b =>
      simp only [Builtin.Bytes.order]
      by_cases h1 : x < y
      · have : ¬ y < x := UInt8.not_lt.mpr (UInt8.le_of_lt h1)
        simp [h1, this]
      · by_cases h2 : x > y
        · simp [h1, h2]
        · have h3 : ¬ y < x := h2
          simp [h1, h3, ih]
section
variable {prog : Program} {w : World} {A : Around} {X : List Addr} {h : Heap} {a b : Value}
theorem op_tlt {o : Bool} {l m : List Nat} (ra : TxR o l X h a) (rb : TxR o m X h b) : Ev prog w A X h (compareOp .Lt a b) (BoolR (decide (l < m))) := fun Y s al le => by
  cases o with
  | false =>
    obtain ⟨t, rfl⟩ := ra; obtain ⟨u, rfl⟩ := rb
    exact PyProof.Rows.lt_str ⟨_, _, rfl, Kp.refl _, by simp [BoolR]⟩
  | true =>
    obtain ⟨x, t, rfl, rfl⟩ := ra; obtain ⟨y, u, rfl, rfl⟩ := rb
    refine compareOp_gives (op := .Lt) (typeIs_bytes s x t) (typeIs_bytes s y u) slot_bytes_lt entry_bytes_lt (args_bytes_lt_2 _ _) (m := .val (.bool (decide (x.toList.map UInt8.toNat < y.toList.map UInt8.toNat)))) ?_ (fun e => nomatch e) ⟨_, _, rfl, Kp.refl _, rfl⟩
    refine .of_wp fun M A E s Q hq => ?_
    show wpAny M A (isInstance (.bytes y u) (.type "bytes") >>= fun r => _) _ E s
    refine wpAny_bind (wpAny_isInstance (typeIs_bytes s y u) PySem.F.sub_bytes_bytes ?_)
    exact wpAny_pure ⟨_, rfl, by rw [← order_lt] at hq; exact hq⟩
theorem op_tgt {o : Bool} {l m : List Nat} (ra : TxR o l X h a) (rb : TxR o m X h b) : Ev prog w A X h (compareOp .Gt a b) (BoolR (decide (m < l))) := fun Y s al le => by
  cases o with
  | false =>
    obtain ⟨t, rfl⟩ := ra; obtain ⟨u, rfl⟩ := rb
    exact P.gt_str ⟨_, _, rfl, Kp.refl _, by simp [BoolR]⟩
  | true =>
    obtain ⟨x, t, rfl, rfl⟩ := ra; obtain ⟨y, u, rfl, rfl⟩ := rb
    refine compareOp_gives (op := .Gt) (typeIs_bytes s x t) (typeIs_bytes s y u) slot_bytes_gt entry_bytes_gt (args_bytes_gt_2 _ _) (m := .val (.bool (decide (y.toList.map UInt8.toNat < x.toList.map UInt8.toNat)))) ?_ (fun e => nomatch e) ⟨_, _, rfl, Kp.refl _, rfl⟩
    refine .of_wp fun M A E s Q hq => ?_
    show wpAny M A (isInstance (.bytes y u) (.type "bytes") >>= fun r => _) _ E s
    refine wpAny_bind (wpAny_isInstance (typeIs_bytes s y u) PySem.F.sub_bytes_bytes ?_)
    exact wpAny_pure ⟨_, rfl, by rw [← order_gt] at hq; exact hq⟩
end
end Mine
end

section
namespace Mine
open PySem PySem.W PyProof.Rows PySem.Calls PySem.SeqAt
set_option maxRecDepth 100000

section
variable {prog : Program} {w : World} {A : Around} {X : List Addr} {h : Heap} {a b : Value} {env : Env} {pos : Pos}
theorem op_tadd {l m : List Nat} (ra : TxR false l X h a) (rb : TxR false m X h b) (hsz : l.length + m.length ≤ sizeLine) : Ev prog w A X h (binaryOp .Add a b) (TxR false (l ++ m)) := fun Y s al le => by
  obtain ⟨t, rfl⟩ := ra; obtain ⟨u, rfl⟩ := rb
  refine PyProof.Rows.add_str (fun t' tk => ⟨_, tk, rfl, Kp.refl _, t', ?_⟩) (by simpa [Str.length] using hsz)
  show Value.str (Str.mk (l.toArray ++ m.toArray)) t' = _
  simp
theorem op_titem {value slice : Expr} {l : List Nat} {k : Nat} {c : Nat} (ra : TxR false l X h a) (rb : IntR k X h b) (hc : l[k]? = some c) (hk : k < 2 ^ 60)
    (hs : ∀ x t u, subscripted slice false (.str x t) (.int k u) = operate [.str x t, .int k u] (getItem (.str x t) (.int k u))) : Ev prog w A X h (subscriptTail value slice a b) (TxR false [c]) := fun Y s al le => by
  obtain ⟨t, rfl⟩ := ra; obtain ⟨u, rfl⟩ := rb
  have hlt : k < l.length := (List.getElem?_eq_some_iff.mp hc).1
  refine tail_any (typeIs_str s _ t) PySem.F.slot_str_getitem.lookup (getItem_str (c := c) ?_ ?_ ⟨_, _, rfl, Kp.refl _, s.toks, by simp⟩) (hs _ t u)
  · simp; omega
  · have : seqIndex? (k : Int) (⟨l.toArray⟩ : Str).length = some k := by
      unfold seqIndex?; simp [Str.length]; omega
    rw [this]; simpa using hc
theorem upto_pick (l : List Nat) (k : Nat) : ((Builtin.Str.strSliceIndices none (some (k : Int)) 1 l.length).filterMap (l.toArray[·]?)) = l.take k := by
  unfold Builtin.Str.strSliceIndices
  simp only
  have e : max 0 (min (if (k : Int) < 0 then (k : Int) + l.length else k) (l.length : Int)) = ((min k l.length : Nat) : Int) := by
    rw [if_neg (by omega)]; omega
  rw [if_pos (by decide), if_pos (by decide), e]
  have := sliceRange_one 0 (min k l.length)
  rw [show ((0 : Nat) : Int) = 0 from rfl] at this
  rw [this, pick_run]
  simp [List.take_eq_take_iff]
theorem ev_upto_str {value e : Expr} {p : Pos} {l : List Nat} {k : Nat} (hv : Ev prog w A X h (eval value env) (TxR false l)) (he : Ev prog w A X h (eval e env) (IntR k)) (hsz : l.length ≤ sizeLine)
    (ht : ∀ o r, letTemporaryGo value o r = pure ()) : Ev prog w A X h (eval (.Subscript value (.Slice none (some e) none p) pos) env) (TxR false (l.take k)) := fun Y s al le => by
  refine wpAny_Subscript_str_slice (hv.use al le fun a h₁ t₁ k₁ ra => wpAny_evalPart_none (wpAny_evalPart_some (he.use (s := { s with heap := h₁, toks := t₁ }) (al.up k₁) (le.step k₁) fun c h₂ t₂ k₂ rc => ?_))) ht
  obtain ⟨t, rfl⟩ := ra
  obtain ⟨u, rfl⟩ := rc
  refine ⟨⟨l.toArray⟩, t, none, some ((k : Int), u), rfl, rfl, rfl, ?_⟩
  unfold sliceMade
  have kp : Kp s.heap (h₂.push { cls := .type "slice", data := .fields #[.none, .int k u, .none] }) := (k₁.trans k₂).trans (kp_push _ _)
  have pk := upto_pick l k
  split
  · rename_i hq
    have e : l.take k = l := by
      have h2 := (Bool.and_eq_true_iff.mp hq).2
      unfold slicePicked at h2
      simp only [Option.map_none, Option.map_some, Option.getD_none, Str.length, List.size_toArray, beq_iff_eq] at h2
      refine List.take_of_length_le ?_
      unfold Builtin.Str.strSliceIndices at h2
      simp only at h2
      have e : max 0 (min (if (k : Int) < 0 then (k : Int) + l.length else k) (l.length : Int)) = ((min k l.length : Nat) : Int) := by
        rw [if_neg (by omega)]; omega
      rw [if_pos (by decide), if_pos (by decide), e] at h2
      have e3 := sliceRange_one 0 (min k l.length)
      rw [show ((0 : Nat) : Int) = 0 from rfl] at e3
      rw [e3] at h2
      simp at h2; omega
    exact ⟨_, _, rfl, kp, t, by rw [e]⟩
  · have hle : (l.take k).length ≤ sizeLine := Nat.le_trans (by simp; omega) hsz
    have e2 : (slicePicked ⟨l.toArray⟩ none (some ((k : Int), u)) none).filterMap ((⟨l.toArray⟩ : Str).cps[·]?) = l.take k := by
      unfold slicePicked
      simp only [Option.map_none, Option.map_some, Option.getD_none, Str.length, List.size_toArray]
      exact pk
    rw [e2]
    exact ⟨by simpa [Str.length] using hle, _, _, rfl, kp, t₂, rfl⟩

/-! join, split, encode, isinstance -/
theorem strsAre_of {vs : List Value} {ps : List (List Nat)} (hx : All2 (fun u d => TxR false d X h u) vs ps) : StrsAre vs (ps.map fun p => ⟨p.toArray⟩) := by
  induction hx with
  | nil => exact .nil
  | cons r _ ih => obtain ⟨t, rfl⟩ := r; exact .cons _ t ih
theorem b_sjoin {sep : List Nat} {ps : List (List Nat)} {l : List Nat} (ra : TxR false sep X h a) (rb : LsR (TxR false) ps X h b) (hok : (ps.map (·.length)).sum + ps.length * sep.length ≤ 16777216)
    (hl : Txt.join ⟨sep.toArray⟩ (ps.map fun p => ⟨p.toArray⟩) = ⟨l.toArray⟩) : Ev prog w A X h (call (.builtin "str.join") [a, b]) (TxR false l) := fun Y s al le => by
  obtain ⟨t, rfl⟩ := ra
  obtain ⟨D, vs, rfl, _, hD, hx⟩ := (gr_ls (gr_tx false) ps).up le.lw rb
  refine join_list hD.isList (strsAre_of (by simpa using hx)) ?_ fun t' k => ⟨_, k, rfl, Kp.refl _, t', by rw [hl]⟩
  simpa [Str.length, Function.comp_def] using hok
theorem bArr_map (l : List Nat) (hl : ∀ c ∈ l, c < 256) : (bArr l).toList.map UInt8.toNat = l := by
  simp only [bArr, List.map_map]
  refine (List.map_congr_left fun c hc => ?_).trans (List.map_id _)
  have := hl c hc
  simp [Nat.mod_eq_of_lt this]
theorem bArr_of {b : Array UInt8} {l : List Nat} (hb : b.toList.map UInt8.toNat = l) : b = bArr l := by
  subst hb
  have e : (b.toList.map UInt8.toNat).map Nat.toUInt8 = b.toList := by
    rw [List.map_map]
    refine (List.map_congr_left fun c _ => ?_).trans (List.map_id _)
    simp
  rw [bArr, e]
theorem isBy_of {vs : List Value} {ps : List (List Nat)} (hx : All2 (fun u d => TxR true d X h u) vs ps) : All2 IsBy vs (ps.map bArr) := by
  induction hx with
  | nil => exact .nil
  | cons r _ ih => obtain ⟨x, t, rfl, hb⟩ := r; exact .cons ⟨t, by rw [bArr_of hb]⟩ ih
theorem b_bjoin {sep : List Nat} {ps : List (List Nat)} {l : List Nat} (ra : TxR true sep X h a) (rb : LsR (TxR true) ps X h b) (hne : ps ≠ [])
    (h1 : ((ps.map bArr).foldl (· + ·.size) ((bArr sep).size * ((ps.map bArr).length - 1))) ≤ sizeLine) (h2 : (Builtin.Bytes.joined (bArr sep) (ps.map bArr)).size ≤ sizeLine) (hl : (Builtin.Bytes.joined (bArr sep) (ps.map bArr)).toList.map UInt8.toNat = l) :
    Ev prog w A X h (call (.builtin "bytes.join") [a, b]) (TxR true l) := fun Y s al le => by
  obtain ⟨x, t, rfl, hb⟩ := ra
  obtain ⟨D, vs, rfl, _, ⟨n, hD⟩, hx⟩ := (gr_ls (gr_tx true) ps).up le.lw rb
  obtain rfl := bArr_of hb
  have hv := isBy_of hx
  refine call_meets slot_bytes_join (typeIs_bytes s _ t) entry_bytes_join (args_bytes_join_2 _ _) (bytes_join D n (bArr sep) t vs (ps.map bArr) hv ?_ h1 h2) ⟨hD, fun tk t' => ⟨_, tk, rfl, Kp.refl _, _, t', rfl, hl⟩⟩
  rintro rfl
  have := hx.length
  exact hne (List.length_eq_zero_iff.mp this.symm)
theorem ev_mk {o : Bool} {l : List Nat} (h1 : l.length ≤ sizeLine) (h2 : ∀ c ∈ l, c < 256) : Ev prog w A X h (mkTx o l) (TxR o l) := fun Y s al le => by
  cases o with
  | false =>
    show wpAny _ _ (mkStr ⟨l.toArray⟩) _ _ _
    unfold mkStr
    rw [if_neg (by simpa [Str.length] using h1)]
    exact wpAny_bind (wpAny_fresh (wpAny_pure ⟨_, _, rfl, Kp.refl _, _, rfl⟩))
  | true =>
    show wpAny _ _ (mkBytes (bArr l)) _ _ _
    exact wpAny_mkBytes ⟨_, _, rfl, Kp.refl _, _, _, rfl, bArr_map l h2⟩ (by simpa [bArr] using h1)
theorem ev_mks {o : Bool} : ∀ (ps : List (List Nat)) {X : List Addr} {h : Heap}, (∀ l ∈ ps, l.length ≤ sizeLine ∧ ∀ c ∈ l, c < 256) → Ev prog w A X h (ps.mapM (mkTx o)) (fun X h vs => All2 (fun u d => TxR o d X h u) vs ps)
  | [], X, h, _ => by rw [List.mapM_nil]; exact Ev.pure fun _ _ _ => .nil
  | p :: ps, X, h, hp => by
    rw [List.mapM_cons]
    refine (ev_mk (hp p (.head _)).1 (hp p (.head _)).2).bind fun Y h' v le al r => ?_
    refine (ev_mks ps fun l hl => hp l (.tail _ hl)).bind fun Z h'' vs le' al' rs => ?_
    exact Ev.pure fun Z' h3 _ => .cons r rs
theorem parts_ok : ∀ w ∈ W15, ∀ l ∈ parts w, l.length ≤ 16 ∧ ∀ c ∈ l, c < 256 := by decide
theorem ev_split_tree {o : Bool} {wd : List Nat} (hw : wd ∈ W15) : Ev prog w A X h (do let vs ← (parts wd).mapM (mkTx o); ret (← newList vs)) (fun X h f => ∃ v, f = Fin.done (.ret v) ∧ LsR (TxR o) (parts wd) X h v) := by
  refine (ev_mks (parts wd) fun l hl => ⟨Nat.le_trans (parts_ok wd hw l hl).1 (by rw [sizeLine_eq]; omega), (parts_ok wd hw l hl).2⟩).bind fun Y h' vs le al r => ?_
  refine (ev_newList (R := TxR o) (gr_tx o) r ?_).bind fun Z h'' v le' al' rv => ?_
  · have : ∀ w ∈ W15, (parts w).length ≤ 16 := by decide
    exact Nat.le_trans (this wd hw) (by rw [sizeLine_eq]; omega)
  · exact Ev.pure fun Z' h3 l => ⟨v, rfl, (gr_ls (gr_tx o) _).up l.lw rv⟩
theorem parts_nil : parts [] = [[]] := rfl
theorem b_ssplit {wd : List Nat} (hw : wd ∈ W15) (ra : TxR false (pth wd) X h a) (rb : TxR false [47] X h b) : Ev prog w A X h (call (.builtin "str.split") [a, b]) (LsR (TxR false) (parts wd)) := fun Y s al le => by
  obtain ⟨t, rfl⟩ := ra
  obtain ⟨u, rfl⟩ := rb
  rcases List.mem_cons.mp (show wd ∈ [] :: W15.tail from hw) with rfl | hw'
  · refine call_meets PySem.F.slot_str_split (typeIs_str s _ t) PySem.F.entry_str_split (PySem.F.args_str_split_2 _ _) (meets_str_split_cannot_occur _ _ t u (by decide)) ?_
    exact ⟨_, _, rfl, kp_push _ _, made_list (vs := [Value.str ⟨#[]⟩ t]) al (get_size _) (get_push _ _ rfl) (.one ⟨t, rfl⟩)⟩
  · refine wpAny_call_entry PySem.F.slot_str_split (typeIs_str s _ t) PySem.F.entry_str_split ?_ (PySem.F.args_str_split_2 _ _)
    rw [show (⟨[47].toArray⟩ : Str) = ⟨#[47]⟩ from rfl, ssplit_all wd hw' t u]
    refine (ev_split_tree hw).use al (Le.refl _ _) fun f h' tk kp r => ?_
    obtain ⟨v, rfl, r⟩ := r
    exact ⟨v, rfl, h', tk, rfl, kp, r⟩
theorem b_bsplit {wd : List Nat} (hw : wd ∈ W15) (ra : TxR true (pth wd) X h a) (rb : TxR true [47] X h b) : Ev prog w A X h (call (.builtin "bytes.split") [a, b]) (LsR (TxR true) (parts wd)) := fun Y s al le => by
  obtain ⟨x, t, rfl, hx⟩ := ra
  obtain ⟨y, u, rfl, hy⟩ := rb
  obtain rfl := bArr_of hx
  obtain rfl := bArr_of hy
  refine wpAny_call_entry slot_bytes_split (typeIs_bytes s _ t) entry_bytes_split ?_ (args_bytes_split_2 _ _)
  rcases List.mem_cons.mp (show wd ∈ [] :: W15.tail from hw) with rfl | hw'
  · rw [show bArr (pth []) = #[] from rfl, show bArr [47] = #[47] from rfl, bsplit_nil t u]
    refine wpAny_bind (wpAny_rule (wpAny_bind (wpAny_newList (wpAny_pure ⟨_, rfl, _, _, rfl, kp_push _ _, ?_⟩) (by simp [sizeLine_eq]))))
    exact made_list (vs := [Value.bytes #[] t]) al (get_size _) (get_push _ _ rfl) (.one ⟨_, t, rfl, rfl⟩)
  · rw [show bArr [47] = #[47] from rfl, bsplit_all wd hw' t u]
    refine (ev_split_tree hw).use al (Le.refl _ _) fun f h' tk kp r => ?_
    obtain ⟨v, rfl, r⟩ := r
    exact ⟨v, rfl, h', tk, rfl, kp, r⟩
theorem b_encode {wd : List Nat} (hw : wd ∈ W15) (ra : TxR false (pth wd) X h a) : Ev prog w A X h (call (.builtin "str.encode") [a]) (TxR true (pth wd)) := fun Y s al le => by
  obtain ⟨t, rfl⟩ := ra
  refine wpAny_call_entry PySem.F.slot_str_encode (typeIs_str s _ t) PySem.F.entry_str_encode ?_ (PySem.F.args_str_encode_1 _)
  rw [enc_all wd hw t]
  have e1 : ∀ w ∈ W15, (bArr (pth w)).size ≤ 16 := by decide
  have e2 : ∀ w ∈ W15, ∀ c ∈ pth w, c < 256 := by decide
  refine wpAny_bind (wpAny_mkBytes (wpAny_pure ⟨_, rfl, _, _, rfl, Kp.refl _, _, _, rfl, bArr_map _ (e2 wd hw)⟩) (Nat.le_trans (e1 wd hw) (by rw [sizeLine_eq]; omega)))
theorem b_isBytes {o : Bool} {l : List Nat} (ra : TxR o l X h a) : Ev prog w A X h (call (.builtin "isinstance") [a, .type "bytes"]) (BoolR o) := fun Y s al le => by
  cases o with
  | false =>
    obtain ⟨t, rfl⟩ := ra
    exact call_function_meets kind_isinstance plain_isinstance entry_isinstance (PySem.F.args_isinstance_2 _ _) (isinstance_false_str rfl (by kernel_rfl) PySem.F.sub_str_bytes) ⟨_, _, rfl, Kp.refl _, rfl⟩
  | true =>
    obtain ⟨x, t, rfl, _⟩ := ra
    exact call_function_meets kind_isinstance plain_isinstance entry_isinstance (PySem.F.args_isinstance_2 _ _) (isinstance_true (Tx := "bytes") (by kernel_rfl) PySem.F.sub_bytes_bytes) ⟨typeIs_bytes s x t, _, _, rfl, Kp.refl _, rfl⟩
end
end Mine
end

section
set_option maxRecDepth 100000
namespace Mine
open PySem PySem.W PyProof.Rows PySem.Calls PySem.SeqAt

section
variable {prog : Program} {w : World} {A : Around} {X : List Addr} {h : Heap} {fa : Nat → Addr}
theorem c_sep {k : Nat} {o : Bool} {l : List Nat} {v : Value} (hA : Ok (k + 1) A) (B : Bs fa h) (rv : TxR o l X h v) : Ev prog w A X h (call (.ref (fa 1)) [v]) (TxR o [47]) := by
  refine call_fn (k := k) hA B.lim (B.fn 1 (by decide)) (binds := [(Str.ofString "path", v)]) (fun _ _ _ _ _ _ _ => rfl) ?_ ?_ rfl rfl rfl
  · intro L x hx; rw [List.mem_singleton.mp hx]; exact .inl rfl
  intro Y s q cd L h₁ tk le al kp₀ F hA'
  have B1 : Bs fa h₁ := B.up (le.step kp₀).kp
  have rv1 : TxR o l Y h₁ v := rv
  refine wpAny_execs_cons (wpAny_If ((tr_val (R := BoolR o) (ev_callB (B1.b (v := .builtin "isinstance") (by decide) rfl rfl rfl)
    (ev_args_cons (ev_name (.loc rfl F.ns rfl) (gr_tx o l) rv1 rfl (by decide)) (gr_tx o l) (ev_args_cons (ev_name (B1.b (v := .type "bytes") (by decide) rfl rfl rfl) (gr_is (.type "bytes")) rfl rfl (by decide)) (gr_is _) ev_args_nil rfl) rfl)
    (fun Z h' vs l' r => by obtain ⟨u, us, rfl, r1, u2, us2, rfl, r2, rfl⟩ := r; obtain rfl := r2; exact b_isBytes r1) rfl (by decide) rfl rfl) (fun Z h' v r => op_btruthy r) rfl).here (s := { s with heap := h₁, toks := tk }) (al.up kp₀) fun b h₂ t₂ k₂ rb => ?_))
  obtain rfl := rb
  cases b with
  | true =>
    refine wpAny_execs_cons (wpAny_Return_some ((ev_bytes (X := Y) (h := h₂)).here (s := { s with heap := h₂, toks := t₂ }) ((al.up kp₀).up k₂) fun v h₃ t₃ k₃ r => ⟨v, h₃, t₃, rfl, rfl, (kp₀.trans k₂).trans k₃, r⟩))
  | false =>
    refine wpAny_execs_cons (wpAny_Return_some ((ev_str (X := Y) (h := h₂)).here (s := { s with heap := h₂, toks := t₂ }) ((al.up kp₀).up k₂) fun v h₃ t₃ k₃ r => ⟨v, h₃, t₃, rfl, rfl, (kp₀.trans k₂).trans k₃, r⟩))

theorem join_pth : ∀ wd ∈ W15, Txt.join ⟨([] : List Nat).toArray⟩ ((wd.map fun c => [47, c]).map fun p => ⟨p.toArray⟩) = ⟨(pth wd).toArray⟩ := by decide
theorem join_pthN : ∀ wd ∈ W15, ((wd.map fun c => [47, c]).map (·.length)).sum + (wd.map fun c => [47, c]).length * ([] : List Nat).length ≤ 16777216 := by decide
theorem w15_len : ∀ wd ∈ W15, wd.length ≤ 3 := by decide
theorem c_path {k : Nat} {o : Bool} {wd : List Nat} {v u : Value} (hA : Ok (k + 1) A) (B : Bs fa h) (hw : wd ∈ W15) (rv : TxR false wd X h v) (ru : BoolR o X h u) : Ev prog w A X h (call (.ref (fa 9)) [v, u]) (TxR o (pth wd)) := by
  refine call_fn (k := k) hA B.lim (B.fn 9 (by decide)) (binds := [(Str.ofString "word", v), (Str.ofString "odd", u)]) (fun _ _ _ _ _ _ _ => rfl) ?_ ?_ rfl rfl rfl
  · intro L x hx
    rcases List.mem_cons.mp hx with rfl | hx
    · exact .inl rfl
    · rw [List.mem_singleton.mp hx]; exact .inl rfl
  intro Y s q cd L h₁ tk le al kp₀ F hA'
  have hlen := w15_len wd hw
  have sl : ∀ {n : Nat}, n ≤ 1000000 → n ≤ sizeLine := fun h => by rw [sizeLine_eq]; omega
  refine wpAny_execs_cons (as_name (s := { s with heap := h₁, toks := tk }) (R := TxR false (pth wd)) F (al.up kp₀)
    (ev_meth1 (T := "str") (Ro := TxR false []) (Re := LsR (TxR false) (wd.map fun c => [47, c])) ev_str (gr_tx _ _)
      (ev_compO (R := fun c : Nat => TxR false [c]) (S := TxR false) (ds := wd) (fun _ => true) (fun c => [47, c]) (by rw [List.filter_eq_self.mpr (by simp)])
          (ev_name (.loc rfl F.ns rfl) (gr_tx false wd) rv rfl (by decide)) (fun Z h' v' le' r => ev_iter_str hA'.handled r) (fun c => gr_tx false [c]) (gr_tx false) (sl (by omega)) (cl := []) rfl (.loc rfl)
          (fun d hd Z h' v C le' al' r S => ev_tests_nil)
          (fun d hd _ Z h' v C le' al' r S => ev_BinOp ev_str (gr_tx _ _) (ev_name S (gr_tx false [d]) r rfl (by decide)) (fun Z' h'' a b l ra rb => op_tadd ra rb (sl (show (Str.ofString "/").cps.toList.length + 1 ≤ 1000000 from by decide))))
          rfl (by decide) (fun _ => rfl))
      (fun Z h' v r => recv_str r) PySem.F.plainAttrs_str PySem.F.slot_str_join PySem.F.type_str_join
      (fun Z h' a b l ra rb => b_sjoin ra rb (join_pthN wd hw) (join_pth wd hw)) rfl rfl rfl) (gr_tx _ _) (fun v => .loc rfl) rfl rfl ?_)
  intro t h₂ t₂ F₂ sx₂ al₂ rt
  refine wpAny_execs_cons (wpAny_Return_some ((ev_IfExp (b := o) (R := TxR o (pth wd)) (X := Y) (h := h₂) (tr_val (R := BoolR o) (ev_name (.loc rfl F₂.ns rfl) (gr_bool o) ru rfl (by decide)) (fun Z h' v r => op_btruthy r) rfl)
    (fun ho => by
      subst ho
      exact ev_meth0 (T := "str") (ev_name (.loc rfl F₂.ns rfl) (gr_tx false (pth wd)) rt rfl (by decide)) (fun Z h' v r => recv_str r) PySem.F.plainAttrs_str PySem.F.slot_str_encode PySem.F.type_str_encode (fun Z h' a l ra => b_encode hw ra) rfl rfl)
    (fun ho => by subst ho; exact ev_name (.loc rfl F₂.ns rfl) (gr_tx false (pth wd)) rt rfl (by decide))).here (s := { s with heap := h₂, toks := t₂ }) al₂ fun v h₃ t₃ k₃ r => ⟨v, h₃, t₃, rfl, rfl, F₂.kept.trans k₃, r⟩))
end
end Mine
end

section
namespace Mine
open PySem PySem.W PyProof.Rows PySem.Calls PySem.SeqAt
set_option maxRecDepth 100000

/-! the sort's questions, answered by ranks -/
def Sat (n : Nat) (r : Nat → Nat) {α : Type} : KasT α → (α → Prop) → Prop
  | .ret a, Q => Q a
  | .ask i j k, Q => i < n ∧ j < n ∧ Sat n r (k (decide (r i < r j))) Q
theorem sat_bind {n : Nat} {r : Nat → Nat} {α β : Type} {f : α → KasT β} {Q : β → Prop} : ∀ t : KasT α, Sat n r t (fun a => Sat n r (f a) Q) → Sat n r (t.bind f) Q
  | .ret _, h => h
  | .ask i j k, h => ⟨h.1, h.2.1, sat_bind (k _) h.2.2⟩
theorem sat_wp {n : Nat} {r : Nat → Nat} {cmp : Nat → Nat → (Bool → Shared → Prop) → Shared → Prop} {Inv : Shared → Prop} (hc : ∀ i j C s, i < n → j < n → Inv s → (∀ s', Inv s' → C (decide (r i < r j)) s') → cmp i j C s) {α : Type} {Q : α → Prop} :
    ∀ (t : KasT α) (s : Shared), Sat n r t Q → Inv s → t.kasWp cmp (fun a s' => Q a ∧ Inv s') s
  | .ret _, _, h, i => ⟨h, i⟩
  | .ask i j k, s, h, iv => hc i j _ s h.1 h.2.1 iv fun s' iv' => sat_wp hc (k _) s' h.2.2 iv'

section
variable {n : Nat} {r : Nat → Nat}
def Kr (r : Nat → Nat) (p : Array Nat) (i : Nat) : Nat := r (p.getD i 0)
structure Mix (n : Nat) (p : Array Nat) : Prop where
  perm : p.Perm (List.range n).toArray
theorem Mix.size {p : Array Nat} (m : Mix n p) : p.size = n := by rw [m.perm.size_eq]; simp
theorem Mix.lt {p : Array Nat} (m : Mix n p) {i : Nat} (hi : i < n) : p.getD i 0 < n := by
  have hs : i < p.size := by rw [m.size]; exact hi
  have hm : p.getD i 0 ∈ p.toList := by
    have : p.getD i 0 = p[i] := by simp [Array.getD, hs]
    rw [this]; simp
  have := (Array.perm_iff_toList_perm.mp m.perm).mem_iff.mp hm
  simpa using this
theorem Mix.inj {p : Array Nat} (m : Mix n p) (hr : ∀ i j, i < n → j < n → r i = r j → i = j) {i j : Nat} (hi : i < n) (hj : j < n) (e : Kr r p i = Kr r p j) : i = j := by
  have hs : i < p.size := by rw [m.size]; exact hi
  have hs' : j < p.size := by rw [m.size]; exact hj
  have e1 := hr _ _ (m.lt hi) (m.lt hj) e
  have nd : p.toList.Nodup := (Array.perm_iff_toList_perm.mp m.perm).nodup_iff.mpr (by simpa using List.nodup_range)
  have e2 : p.toList[i]'(by simpa using hs) = p.toList[j]'(by simpa using hs') := by simpa [Array.getD, hs, hs'] using e1
  have pw := List.pairwise_iff_getElem.mp nd
  rcases Nat.lt_trichotomy i j with h | h | h
  · exact absurd e2 (pw i j (by simpa using hs) (by simpa using hs') h)
  · exact h
  · exact absurd e2.symm (pw j i (by simpa using hs') (by simpa using hs) h)
def Up (r : Nat → Nat) (p : Array Nat) (k : Nat) : Prop := ∀ i j, i < j → j < k → Kr r p i < Kr r p j
def Dn (r : Nat → Nat) (p : Array Nat) (k : Nat) : Prop := ∀ i j, i < j → j < k → Kr r p j < Kr r p i
theorem kr_rev {p : Array Nat} {m : Nat} (hm : m ≤ p.size) (k : Nat) : Kr r (kas_rev p 0 m) k = if k < m then Kr r p (m - 1 - k) else Kr r p k := by
  unfold Kr kas_rev
  have e := getElem?_mirror_all (xs := p) (i := 0) hm k
  simp only [Nat.zero_le, true_and, Nat.zero_add] at e
  have g : ∀ (q : Array Nat) i, q.getD i 0 = (q[i]?).getD 0 := fun q i => by simp
  simp only [g]
  rw [e]
  split <;> rfl
theorem kr_bub {p : Array Nat} {src d : Nat} (hs : src < p.size) (hd : d ≤ src) (k : Nat) : Kr r (bubble p src d) k = if k = src - d then Kr r p src else if src - d < k ∧ k ≤ src then Kr r p (k - 1) else Kr r p k := by
  unfold Kr
  have g : ∀ (q : Array Nat) i, q.getD i 0 = (q[i]?).getD 0 := fun q i => by simp
  simp only [g]
  rw [getElem?_bubble hs d hd k]
  repeat' split
  all_goals rfl
theorem mix_rev {p : Array Nat} (m : Mix n p) (i j : Nat) : Mix n (kas_rev p i j) := ⟨(mirror_perm _ _ _ _).trans m.perm⟩
theorem mix_bub {p : Array Nat} (m : Mix n p) (i j : Nat) : Mix n (bubble p i j) := ⟨(bubble_perm _ _ _).trans m.perm⟩

theorem sat_asc {p : Array Nat} (M : Mix n p) (hr : ∀ i j, i < n → j < n → r i = r j → i = j) {Q : Nat → Prop} : ∀ (f m : Nat), m + f = n → 1 ≤ m → Up r p m → (∀ m', m ≤ m' → m' ≤ n → Up r p m' → (m' = n ∨ Kr r p m' < Kr r p (m' - 1)) → Q m') → Sat n r (kas_asc p f m) Q
  | 0, m, hf, h1, hs, q => q m (Nat.le_refl _) (by omega) hs (.inl (by omega))
  | f + 1, m, hf, h1, hs, q => by
    refine ⟨M.lt (by omega), M.lt (by omega), ?_⟩
    by_cases c : Kr r p m < Kr r p (m - 1)
    · rw [show decide (r (p.getD m 0) < r (p.getD (m - 1) 0)) = true from decide_eq_true c]; show Sat n r (ite _ _ _) Q; rw [if_pos rfl]
      exact q m (Nat.le_refl _) (by omega) hs (.inr c)
    · rw [show decide (r (p.getD m 0) < r (p.getD (m - 1) 0)) = false from decide_eq_false c]; show Sat n r (ite _ _ _) Q; rw [if_neg (by simp)]
      have ne : Kr r p m ≠ Kr r p (m - 1) := fun e => by have := M.inj hr (by omega) (by omega) e; omega
      refine sat_asc M hr f (m + 1) (by omega) (by omega) (fun i j hij hj => ?_) fun m' a b => q m' (by omega) b
      by_cases hjm : j < m
      · exact hs i j hij hjm
      · have : j = m := by omega
        subst this
        by_cases hi : i = j - 1
        · subst hi; omega
        · have := hs i (j - 1) (by omega) (by omega); omega
theorem sat_desc {p : Array Nat} (M : Mix n p) (hr : ∀ i j, i < n → j < n → r i = r j → i = j) {Q : Array Nat × Nat × Nat → Prop} : ∀ (f m : Nat), m + f = n → 1 ≤ m → Dn r p m → (∀ m', m ≤ m' → m' ≤ n → Dn r p m' → Q (p, m', 0)) → Sat n r (kas_desc f p m 0) Q
  | 0, m, hf, h1, hs, q => q m (Nat.le_refl _) (by omega) hs
  | f + 1, m, hf, h1, hs, q => by
    refine ⟨M.lt (by omega), M.lt (by omega), ?_⟩
    by_cases c : Kr r p m < Kr r p (m - 1)
    · rw [show decide (r (p.getD m 0) < r (p.getD (m - 1) 0)) = true from decide_eq_true c]; show Sat n r (ite _ _ _) Q; rw [if_pos rfl, if_neg (by omega)]
      refine sat_desc M hr f (m + 1) (by omega) (by omega) (fun i j hij hj => ?_) fun m' a b => q m' (by omega) b
      by_cases hjm : j < m
      · exact hs i j hij hjm
      · have : j = m := by omega
        subst this
        by_cases hi : i = j - 1
        · subst hi; omega
        · have := hs i (j - 1) (by omega) (by omega); omega
    · rw [show decide (r (p.getD m 0) < r (p.getD (m - 1) 0)) = false from decide_eq_false c]; show Sat n r (ite _ _ _) Q; rw [if_neg (by simp)]
      have ne : Kr r p m ≠ Kr r p (m - 1) := fun e => by have := M.inj hr (by omega) (by omega) e; omega
      refine ⟨M.lt (by omega), M.lt (by omega), ?_⟩
      rw [show decide (r (p.getD (m - 1) 0) < r (p.getD m 0)) = true from decide_eq_true (show Kr r p (m - 1) < Kr r p m by omega)]; show Sat n r (ite _ _ _) Q; rw [if_pos rfl]
      exact q m (Nat.le_refl _) (by omega) hs
theorem sat_tail3 {p : Array Nat} (M : Mix n p) (hr : ∀ i j, i < n → j < n → r i = r j → i = j) {Q : Nat × Array Nat → Prop} {m : Nat} (h1 : 1 ≤ m) (hm : m ≤ n) (hs : Dn r p m) (q : ∀ m' p', Mix n p' → 1 ≤ m' → m' ≤ n → Up r p' m' → Q (m', p')) : Sat n r (kas_tail3 m n p) Q := by
  unfold kas_tail3
  refine sat_bind _ (sat_asc (mix_rev M _ _) hr (n - m) m (by omega) h1 (fun i j hij hj => ?_) fun m' a b c _ => q m' _ (mix_rev M _ _) (by omega) b c)
  have := M.size
  rw [kr_rev (by omega), kr_rev (by omega), if_pos (by omega), if_pos (by omega)]
  exact hs _ _ (by omega) (by omega)
theorem sat_descPart {p : Array Nat} (M : Mix n p) (hr : ∀ i j, i < n → j < n → r i = r j → i = j) {Q : Nat × Array Nat → Prop} {m : Nat} (hm : m + 1 ≤ n) (hs : Dn r p (m + 1)) (q : ∀ m' p', Mix n p' → 1 ≤ m' → m' ≤ n → Up r p' m' → Q (m', p')) : Sat n r (kas_descPart m n p) Q := by
  unfold kas_descPart
  refine sat_bind _ (sat_desc M hr (n - (m + 1)) (m + 1) (by omega) (by omega) hs fun m' a b c => ?_)
  dsimp only
  rw [if_neg (by omega)]
  exact sat_tail3 M hr (by omega) b c q
theorem sat_count {p : Array Nat} (M : Mix n p) (hn : 1 ≤ n) (hr : ∀ i j, i < n → j < n → r i = r j → i = j) {Q : Nat × Array Nat → Prop} (q : ∀ m' p', Mix n p' → 1 ≤ m' → m' ≤ n → Up r p' m' → Q (m', p')) : Sat n r (kas_count n p) Q := by
  unfold kas_count
  refine sat_bind _ (sat_asc M hr (n - 1) 1 (by omega) (Nat.le_refl _) (fun i j a b => by omega) fun m a b c d => ?_)
  by_cases e : m = n
  · rw [if_pos (by simpa using e)]; exact q m p M a b c
  · rw [if_neg (by simpa using e)]
    have d' := d.resolve_left e
    by_cases g : m > 1
    · rw [if_pos g]
      refine ⟨M.lt (by omega), M.lt (by omega), ?_⟩
      rw [show decide (r (p.getD 0 0) < r (p.getD (m - 1) 0)) = true from decide_eq_true (c 0 (m - 1) (by omega) (by omega))]; show Sat n r (ite _ _ _) Q; rw [if_pos rfl]
      exact q m p M a b c
    · rw [if_neg g]
      have : m = 1 := by omega
      subst this
      refine sat_descPart M hr (by omega) (fun i j hij hj => ?_) q
      have h0 : i = 0 := by omega
      have h1 : j = 1 := by omega
      subst h0; subst h1
      exact d'
theorem sat_place {p : Array Nat} (M : Mix n p) (hr : ∀ i j, i < n → j < n → r i = r j → i = j) {Q : Nat → Prop} {k : Nat} (hk : k < n) (hs : Up r p k) : ∀ (f l t : Nat), l ≤ t → t ≤ k → t - l ≤ f → (∀ i, i < l → Kr r p i < Kr r p k) → (∀ i, t ≤ i → i < k → Kr r p k < Kr r p i) →
    (∀ l, l ≤ k → (∀ i, i < l → Kr r p i < Kr r p k) → (∀ i, l ≤ i → i < k → Kr r p k < Kr r p i) → Q l) → Sat n r (kas_place p k f l t) Q
  | 0, l, t, a, b, c, lo, hi, q => q l (by omega) lo fun i h1 h2 => hi i (by omega) h2
  | f + 1, l, t, a, b, c, lo, hi, q => by
    unfold kas_place
    by_cases ge : l ≥ t
    · rw [if_pos ge]; exact q l (by omega) lo fun i h1 h2 => hi i (by omega) h2
    · rw [if_neg ge]
      refine ⟨M.lt (by omega), M.lt (by omega), ?_⟩
      have ne : Kr r p k ≠ Kr r p ((l + t) / 2) := fun e => by have := M.inj hr (by omega) (by omega) e; omega
      have hs' : ∀ i j, i ≤ j → j < k → Kr r p i ≤ Kr r p j := fun i j hij hj => by
        by_cases e : i = j
        · subst e; exact Nat.le_refl _
        · exact Nat.le_of_lt (hs i j (by omega) hj)
      by_cases c' : Kr r p k < Kr r p ((l + t) / 2)
      · rw [show decide (r (p.getD k 0) < r (p.getD ((l + t) / 2) 0)) = true from decide_eq_true c']; show Sat n r (ite _ _ _) Q; rw [if_pos rfl]
        refine sat_place M hr hk hs f l ((l + t) / 2) (by omega) (by omega) (by omega) lo (fun i h1 h2 => ?_) q
        have := hs' ((l + t) / 2) i h1 h2; omega
      · rw [show decide (r (p.getD k 0) < r (p.getD ((l + t) / 2) 0)) = false from decide_eq_false c']; show Sat n r (ite _ _ _) Q; rw [if_neg (by simp)]
        refine sat_place M hr hk hs f ((l + t) / 2 + 1) t (by omega) b (by omega) (fun i h1 => ?_) hi q
        have := hs' i ((l + t) / 2) (by omega) (by omega); omega
theorem sat_bin (hr : ∀ i j, i < n → j < n → r i = r j → i = j) {Q : Array Nat → Prop} : ∀ (f k : Nat) {p : Array Nat}, Mix n p → k + f = n → Up r p k → (∀ p', Mix n p' → Up r p' n → Q p') → Sat n r (kas_bin f p k) Q
  | 0, k, p, M, e, hs, q => q p M (by rw [show n = k by omega]; exact hs)
  | f + 1, k, p, M, e, hs, q => by
    unfold kas_bin
    refine sat_bind _ (sat_place M hr (by omega) hs k 0 k (Nat.zero_le _) (Nat.le_refl _) (by omega) (fun i h => by omega) (fun i h1 h2 => by omega) fun l hl lo hi => ?_)
    refine sat_bin hr f (k + 1) (mix_bub M _ _) (by omega) (fun i j hij hj => ?_) q
    have := M.size
    rw [kr_bub (by omega) (by omega), kr_bub (by omega) (by omega), show k - (k - l) = l by omega]
    repeat' split
    all_goals first
      | (exfalso; omega)
      | exact lo _ (by omega)
      | exact hi _ (by omega) (by omega)
      | exact hs _ _ (by omega) (by omega)
theorem sat_sort (hn : 1 ≤ n) (hr : ∀ i j, i < n → j < n → r i = r j → i = j) {Q : Array Nat → Prop} (q : ∀ p', Mix n p' → Up r p' n → Q p') : Sat n r (kas_sort n) Q := by
  unfold kas_sort
  refine sat_bind _ (sat_count ⟨Array.Perm.refl _⟩ hn hr fun m p M a b c => ?_)
  dsimp only
  by_cases e : m < n
  · rw [if_pos e]
    exact sat_bin hr _ _ M (by omega) (by rw [show max m 1 = m by omega]; exact c) q
  · rw [if_neg e]
    exact q p M (by rw [show n = m by omega]; exact c)
end
end Mine
end

section
namespace Mine
open PySem PySem.W PyProof.Rows PySem.Calls PySem.SeqAt
set_option maxRecDepth 100000

/-! one question of the sort -/
structure LtR {α : Type} [DecidableEq α] [LT α] [DecidableLT α] (R : α → Pr) (T : String) (n : Nat) : Prop where
  typ : ∀ {X : List Addr} {s : Shared} {v : Value} {d : α}, R d X s.heap v → s.TypeIs v T
  asym : ∀ {a b : α}, a < b → ¬ b < a
  lt : ∀ {prog : Program} {w : World} {A : Around} {E : Value → Shared → Prop} {X : List Addr} {s : Shared} {a b : Value} {d e : α} {Q : Bool → Shared → Prop}, A.units + n < cLine → R d X s.heap a → R e X s.heap b → Q (decide (d < e)) s → wpAny (model prog w) A (oneLt' true a b) Q E s
theorem ltr_tx (o : Bool) : LtR (TxR o) (if o then "bytes" else "str") 0 where
  typ := fun {X s v d} r => by
    cases o with
    | false => obtain ⟨t, rfl⟩ := r; exact typeIs_str s _ t
    | true => obtain ⟨b, t, rfl, _⟩ := r; exact typeIs_bytes s b t
  asym := fun h => List.lt_asymm h
  lt := fun {prog w A E X s a b d e Q} hu ra rb q => by
    cases o with
    | false =>
      obtain ⟨t, rfl⟩ := ra; obtain ⟨u, rfl⟩ := rb
      exact oneLt_str (by simpa using q)
    | true =>
      obtain ⟨x, t, rfl, rfl⟩ := ra; obtain ⟨y, u, rfl, rfl⟩ := rb
      rw [oneLt'_eq]
      simp only [if_true]
      refine wpAny_bind (wpAny_cRoomFor_byValue rfl ?_)
      refine wpAny_bind (wpAny_callSpecialIfBound?_slot (typeIs_bytes s x t) slot_bytes_lt (wpAny_call_entry slot_bytes_lt (typeIs_bytes s x t) entry_bytes_lt ?_ (args_bytes_lt_2 _ _)))
      show wpAny _ _ (isInstance (.bytes y u) (.type "bytes") >>= fun r => _) _ _ s
      refine wpAny_bind (wpAny_isInstance (typeIs_bytes s y u) PySem.F.sub_bytes_bytes ?_)
      refine wpAny_pure ⟨_, rfl, ?_⟩
      refine wpAny_truthy_bool ?_
      rw [← order_lt] at q; exact q

theorem tlt_at {prog : Program} {w : World} {A : Around} {E : Value → Shared → Prop} {X : List Addr} {s : Shared} {a b : Value} {o : Bool} {l m : List Nat} {Q : Value → Shared → Prop} (ra : TxR o l X s.heap a) (rb : TxR o m X s.heap b) (q : Q (.bool (decide (l < m))) s) :
    wpAny (model prog w) A (compareOp .Lt a b) Q E s := by
  cases o with
  | false =>
    obtain ⟨t, rfl⟩ := ra; obtain ⟨u, rfl⟩ := rb
    exact PyProof.Rows.lt_str (by simpa using q)
  | true =>
    obtain ⟨x, t, rfl, rfl⟩ := ra; obtain ⟨y, u, rfl, rfl⟩ := rb
    refine compareOp_gives (op := .Lt) (typeIs_bytes s x t) (typeIs_bytes s y u) slot_bytes_lt entry_bytes_lt (args_bytes_lt_2 _ _) (m := .val (.bool (decide (x.toList.map UInt8.toNat < y.toList.map UInt8.toNat)))) ?_ (fun e => nomatch e) q
    refine .of_wp fun M A E s Q hq => ?_
    show wpAny M A (isInstance (.bytes y u) (.type "bytes") >>= fun r => _) _ E s
    refine wpAny_bind (wpAny_isInstance (typeIs_bytes s y u) PySem.F.sub_bytes_bytes ?_)
    exact wpAny_pure ⟨_, rfl, by rw [← order_lt] at hq; exact hq⟩
theorem entry_eq_loop : entryFor table "list.__eq__.loop" = some Builtin.«list.__eq__.loop» := entryFor_of_tree (by kernel_rfl)
theorem plain_eq_loop : plainId "list.__eq__.loop" = true := by decide +kernel
theorem lt_loop (o : Bool) (l b : Addr) (vs ws : List Value) (n n2 : Nat) (ds es : List (List Nat)) (X : List Addr) (k : Nat) :
    ∀ i : Nat, ds.length - i = k → i ≤ ds.length → i ≤ es.length → Meets (Builtin.«list.__eq__.loop» ⟨[.ref l, .ref b, rawInt i, rawInt 0], []⟩)
      (fun A R s => s.heap.get? l = some { cls := .type "list", dict := none, data := .seq vs.toArray n, slots := #[] } ∧ s.heap.get? b = some { cls := .type "list", dict := none, data := .seq ws.toArray n2, slots := #[] } ∧
        A.in1.units < cLine ∧ All2 (fun u d => TxR o d X s.heap u) vs ds ∧ All2 (fun u d => TxR o d X s.heap u) ws es ∧ R (.ok (.ret (.bool (decide (ds.drop i < es.drop i))))) s) := by
  have hall : ∀ (k : Nat) (ih : ∀ i : Nat, ds.length - i = k → i ≤ ds.length → i ≤ es.length → Meets (Builtin.«list.__eq__.loop» ⟨[.ref l, .ref b, rawInt i, rawInt 0], []⟩)
      (fun A R s => s.heap.get? l = some { cls := .type "list", dict := none, data := .seq vs.toArray n, slots := #[] } ∧ s.heap.get? b = some { cls := .type "list", dict := none, data := .seq ws.toArray n2, slots := #[] } ∧
        A.in1.units < cLine ∧ All2 (fun u d => TxR o d X s.heap u) vs ds ∧ All2 (fun u d => TxR o d X s.heap u) ws es ∧ R (.ok (.ret (.bool (decide (ds.drop i < es.drop i))))) s)) (i : Nat), (ds.length - i = k + 1 ∨ ds.length - i = 0) → i ≤ ds.length → i ≤ es.length →
      Meets (Builtin.«list.__eq__.loop» ⟨[.ref l, .ref b, rawInt i, rawInt 0], []⟩)
      (fun A R s => s.heap.get? l = some { cls := .type "list", dict := none, data := .seq vs.toArray n, slots := #[] } ∧ s.heap.get? b = some { cls := .type "list", dict := none, data := .seq ws.toArray n2, slots := #[] } ∧
        A.in1.units < cLine ∧ All2 (fun u d => TxR o d X s.heap u) vs ds ∧ All2 (fun u d => TxR o d X s.heap u) ws es ∧ R (.ok (.ret (.bool (decide (ds.drop i < es.drop i))))) s) := by
    intro k ih i hk h1 h2 prog w A R s h
    obtain ⟨hp, g, d, tk, os⟩ := s; obtain ⟨hl, hb, hu, hx, hy, h⟩ := h
    have l1 := hx.length
    have l2 := hy.length
    wp_walk using AutoSeq1.wpAny_loadPart' hl, AutoSeq1.wpAny_loadPart' hb
    by_cases hlt : i < ds.length ∧ i < es.length
    · have k1 : i < vs.length := by omega
      have k2 : i < ws.length := by omega
      have hi1 : vs.toArray[((i : Nat) : Int).toNat]? = some vs[i] := by simp [k1]
      have hi2 : ws.toArray[((i : Nat) : Int).toNat]? = some ws[i] := by simp [k2]
      rw [hi1, hi2]
      obtain ⟨d', hd', rd⟩ := hx.get (List.getElem?_eq_getElem k1)
      obtain ⟨e', he', re⟩ := hy.get (List.getElem?_eq_getElem k2)
      have e1 : ds.drop i = d' :: ds.drop (i + 1) := by rw [List.drop_eq_getElem_cons hlt.1]; rw [List.getElem?_eq_getElem hlt.1] at hd'; injection hd' with hd'; rw [hd']
      have e2 : es.drop i = e' :: es.drop (i + 1) := by rw [List.drop_eq_getElem_cons hlt.2]; rw [List.getElem?_eq_getElem hlt.2] at he'; injection he' with he'; rw [he']
      rw [e1, e2] at h
      have hc : ((i : Int) + 1) = ((i + 1 : Nat) : Int) := by push_cast; rfl
      refine wpAny_bind ((eqr_tx o).eq (A := A.in1) (by simpa using hu) rd re prog w _ _ ?_)
      by_cases hde : d' = e'
      · rw [decide_eq_true hde]
        wp_walk
        rw [hc]
        refine ⟨plainId_quiet plain_eq_loop _, codeAny_builtin entry_eq_loop (by
          rw [Around.under_plainId plain_eq_loop _]
          refine ih (i + 1) (by omega) (by omega) (by omega) prog w A R _ ⟨hl, hb, hu, hx, hy, ?_⟩
          subst hde
          have q : (d' :: ds.drop (i + 1) < d' :: es.drop (i + 1)) ↔ ds.drop (i + 1) < es.drop (i + 1) := by
            rw [List.cons_lt_cons_iff]; simp [List.lt_irrefl]
          rw [decide_eq_decide.mpr q] at h
          exact h)⟩
      · rw [decide_eq_false hde]
        wp_walk using AutoSeq1.wpAny_loadPart' hl, AutoSeq1.wpAny_loadPart' hb
        rw [hi1, hi2]
        refine wpAny_bind (show wpAny _ _ (compareOp .Lt vs[i] ws[i]) _ _ _ from tlt_at rd re (wpAny_pure ?_))
        have q : (d' :: ds.drop (i + 1) < e' :: es.drop (i + 1)) ↔ d' < e' := by
          rw [List.cons_lt_cons_iff]; simp [hde]
        rw [decide_eq_decide.mpr q] at h
        exact h
    · have hm : (match (vs.toArray[((i : Nat) : Int).toNat]?, ws.toArray[((i : Nat) : Int).toNat]?) with | (some _, some _) => false | _ => true) = true := by
        by_cases q : i < ds.length
        · have : ws.toArray[((i : Nat) : Int).toNat]? = none := by simp; omega
          rw [this]
          cases vs.toArray[((i : Nat) : Int).toNat]? <;> rfl
        · have : vs.toArray[((i : Nat) : Int).toNat]? = none := by simp; omega
          rw [this]
      have hout : decide (vs.toArray.size < ws.toArray.size) = decide (ds.drop i < es.drop i) := by
        refine decide_eq_decide.mpr ?_
        simp only [List.size_toArray, l1, l2]
        by_cases q : i < ds.length
        · have e : es.drop i = [] := List.drop_eq_nil_of_le (by omega)
          rw [e]; simp; omega
        · have e : ds.drop i = [] := List.drop_eq_nil_of_le (by omega)
          rw [e]
          cases h3 : es.drop i with
          | nil => simp at h3; simp; omega
          | cons x xs =>
            have : i < es.length := by
              have := congrArg List.length h3; simp at this; omega
            simp; omega
      rw [← hout] at h
      cases q1 : vs.toArray[((i : Nat) : Int).toNat]? with
      | none =>
        wp_walk using AutoSeq1.wpAny_loadPart' hl, AutoSeq1.wpAny_loadPart' hb
        exact h
      | some a =>
        cases q2 : ws.toArray[((i : Nat) : Int).toNat]? with
        | none =>
          wp_walk using AutoSeq1.wpAny_loadPart' hl, AutoSeq1.wpAny_loadPart' hb
          exact h
        | some c => rw [q1, q2] at hm; cases hm
  induction k with
  | zero => exact fun i hk => hall (ds.length + 5) (fun j hj => by omega) i (.inr hk)
  | succ k ih => exact fun i hk => hall k ih i (.inl hk)
theorem list_lt (o : Bool) (l b : Addr) (vs ws : List Value) (n n2 : Nat) (ds es : List (List Nat)) (X : List Addr) : Meets (Builtin.«list.__lt__» ⟨[.ref l, .ref b], []⟩)
      (fun A R s => s.heap.get? l = some { cls := .type "list", dict := none, data := .seq vs.toArray n, slots := #[] } ∧ s.heap.get? b = some { cls := .type "list", dict := none, data := .seq ws.toArray n2, slots := #[] } ∧
        A.in1.units < cLine ∧ All2 (fun u d => TxR o d X s.heap u) vs ds ∧ All2 (fun u d => TxR o d X s.heap u) ws es ∧ R (.ok (.ret (.bool (decide (ds < es))))) s) := by
  intro prog w A R s h
  obtain ⟨hp, g, d, tk, os⟩ := s; obtain ⟨hl, hb, hu, hx, hy, h⟩ := h
  have f3 := AutoSeq1.sub_list_list
  wp_walk using AutoSeq1.wpAny_loadPart' hl, AutoSeq1.wpAny_loadPart' hb
  exact ⟨plainId_quiet plain_eq_loop _, codeAny_builtin entry_eq_loop (by
    rw [Around.under_plainId plain_eq_loop _]
    exact lt_loop o l b vs ws n n2 ds es X _ 0 rfl (Nat.zero_le _) (Nat.zero_le _) prog w A R _ ⟨hl, hb, hu, hx, hy, by simpa using h⟩)⟩
theorem ltr_ls (o : Bool) : LtR (LsR (TxR o)) "list" 2 where
  typ := fun {X s v d} r => by obtain ⟨a, vs, rfl, _, hl, _⟩ := r; exact hl.isList.typeIs
  asym := fun h => List.lt_asymm h
  lt := fun {prog w A E X s a b d e Q} hu ra rb q => by
    obtain ⟨l, vs, rfl, _, ⟨n, hl⟩, hx⟩ := ra
    obtain ⟨m, ws, rfl, _, ⟨n', hm⟩, hy⟩ := rb
    rw [oneLt'_eq]
    simp only [if_true]
    refine wpAny_bind (wpAny_cRoomFor (by omega) ?_)
    refine wpAny_bind (wpAny_callSpecialIfBound?_slot ⟨_, hl, rfl⟩ PySem.F.slot_list_lt (call_meets PySem.F.slot_list_lt ⟨_, hl, rfl⟩ PySem.F.entry_list_lt (PySem.F.args_list_lt_2 _ _) (list_lt o l m vs ws n n' d e X) ⟨hl, hm, ?_, hx, hy, ?_⟩))
    · simp; omega
    · exact wpAny_truthy_bool q
end Mine
end

section
namespace Mine
open PySem PySem.W PyProof.Rows PySem.Calls PySem.SeqAt
set_option maxRecDepth 100000

theorem up_id {n : Nat} {f : Nat → Nat} (hf : ∀ i j, i < j → j < n → f i < f j) (hb : ∀ i, i < n → f i < n) {k : Nat} (hk : k < n) : f k = k := by
  have lo : ∀ k, k < n → k ≤ f k := by
    intro k
    induction k with
    | zero => intro _; exact Nat.zero_le _
    | succ k ih => intro h; have := ih (by omega); have := hf k (k + 1) (by omega) h; omega
  have hi : ∀ d k, k + d + 1 = n → f k ≤ k := by
    intro d
    induction d with
    | zero => intro k h; have := hb k (by omega); omega
    | succ d ih => intro k h; have := ih (k + 1) (by omega); have := hf k (k + 1) (by omega) (by omega); omega
  have h1 := lo k hk
  have h2 := hi (n - 1 - k) k (by omega)
  omega
theorem all2_of {α β : Type} {F : α → β → Prop} : ∀ {l₁ : List α} {l₂ : List β}, l₁.length = l₂.length → (∀ (i : Nat) a b, l₁[i]? = some a → l₂[i]? = some b → F a b) → All2 F l₁ l₂
  | [], [], _, _ => .nil
  | [], _ :: _, h, _ => by simp at h
  | _ :: _, [], h, _ => by simp at h
  | a :: l₁, b :: l₂, h, f => .cons (f 0 a b rfl rfl) (all2_of (by simpa using h) fun i a b h1 h2 => f (i + 1) a b (by simpa using h1) (by simpa using h2))

section
variable {α : Type} [DecidableEq α] [LT α] [DecidableLT α]
theorem rank_ok {ds es : List α} (asym : ∀ {a b : α}, a < b → ¬ b < a) (hp : es.Perm ds) (hs : es.Pairwise (· < ·)) :
    (∀ i j, (hi : i < ds.length) → (hj : j < ds.length) → decide (ds[i] < ds[j]) = decide (es.idxOf ds[i] < es.idxOf ds[j])) ∧ (∀ i, (hi : i < ds.length) → es.idxOf ds[i] < ds.length) ∧ (∀ i j, (hi : i < ds.length) → (hj : j < ds.length) → es.idxOf ds[i] = es.idxOf ds[j] → i = j) := by
  have mem : ∀ i (hi : i < ds.length), ds[i] ∈ es := fun i hi => hp.mem_iff.mpr (List.getElem_mem hi)
  have idx : ∀ i (hi : i < ds.length), es.idxOf ds[i] < es.length := fun i hi => List.idxOf_lt_length_iff.mpr (mem i hi)
  have val : ∀ i (hi : i < ds.length), es[es.idxOf ds[i]]'(idx i hi) = ds[i] := fun i hi => List.getElem_idxOf _
  have pw := List.pairwise_iff_getElem.mp hs
  have irr : ∀ a : α, ¬ a < a := fun a h => asym h h
  refine ⟨fun i j hi hj => decide_eq_decide.mpr ⟨fun h => ?_, fun h => ?_⟩, fun i hi => by have := idx i hi; have := hp.length_eq; omega, fun i j hi hj e => ?_⟩
  · rcases Nat.lt_trichotomy (es.idxOf ds[i]) (es.idxOf ds[j]) with q | q | q
    · exact q
    · have e : ds[i] = ds[j] := by rw [← val i hi, ← val j hj]; congr 1
      rw [e] at h; exact absurd h (irr _)
    · have := pw _ _ (idx j hj) (idx i hi) q
      rw [val i hi, val j hj] at this
      exact absurd h (asym this)
  · have := pw _ _ (idx i hi) (idx j hj) h
    rwa [val i hi, val j hj] at this
  · have e' : ds[i] = ds[j] := by rw [← val i hi, ← val j hj]; congr 1
    have nd : ds.Nodup := hp.nodup_iff.mp (List.Pairwise.imp (fun {x y} (h : x < y) (q : x = y) => irr y (by rw [q] at h; exact h)) hs)
    have pn := List.pairwise_iff_getElem.mp nd
    rcases Nat.lt_trichotomy i j with h | h | h
    · exact absurd e' (pn i j hi hj h)
    · exact h
    · exact absurd e'.symm (pn j i hj hi h)

variable {prog : Program} {w : World} {A : Around} {E : Value → Shared → Prop} {s : Shared} {X : List Addr} {h : Heap}
theorem list_sort_at {R : α → Pr} {T : String} {n : Nat} (L : LtR R T n) (hT : T ≠ "tuple") (g : ∀ d, GR (R d)) {a : Addr} {vs : List Value} {m : Nat} {ds es : List α} {P : PySem.Fin → Shared → Prop} (ha : a ∈ X) (al : Al X s.heap)
    (ho : s.heap.get? a = some (seqObj "list" vs.toArray m)) (hx : All2 (fun u d => R d X s.heap u) vs ds) (hp : es.Perm ds) (hs : es.Pairwise (· < ·)) (h64 : ds.length < 64) (hu : A.units + n < cLine)
    (k : ∀ h' us, h'.PlainList a us.toArray → (∀ b o, b ≠ a → s.heap.get? b = some o → h'.get? b = some o) → All2 (fun u d => R d X h' u) us es → P (.done (.ret .none)) { s with heap := h' }) :
    wpAny (model prog w) A (Builtin.«list.sort» ⟨[.ref a], []⟩) P E s := by
  have hlen := hx.length
  have hlen' := hp.length_eq
  have hlt : a < s.heap.objs.size := Heap.lt_size ho
  have s1 := Heap.SameBut.update s.heap a (Obj.mapSeq fun _ => (#[] : Array Value))
  obtain ⟨e1, ho1⟩ : ∃ e1, (s.heap.update a (Obj.mapSeq fun _ => (#[] : Array Value))).get? a = some (seqObj "list" #[] e1) := ⟨_, get?_update_seq ho fun _ => #[]⟩
  rw [list_sort_plain]
  refine wpAny_bind (listItems_at ho rfl ?_)
  refine wpAny_bind (listUpdate_at ho rfl ?_ (by rw [List.size_toArray, sizeLine_eq]; omega) (Nat.zero_le _))
  refine wpAny_bind (seqEpoch_at ho1 rfl ?_)
  refine wpAny_bind (wpAny_newTuple ?_ (by show vs.length ≤ _; rw [sizeLine_eq]; omega))
  refine wpAny_bind (wpAny_newList ?_ (Nat.zero_le _))
  refine wpAny_holding ?_
  have hq : ∃ H, H = ((s.heap.update a (Obj.mapSeq fun _ => (#[] : Array Value))).push (seqObj "tuple" vs.toArray 0)).push (seqObj "list" #[] 0) := ⟨_, rfl⟩
  obtain ⟨H, hH⟩ := hq
  show wpAny (model prog w) A _ P E { s with heap := ((s.heap.update a (Obj.mapSeq fun _ => (#[] : Array Value))).push (seqObj "tuple" vs.toArray 0)).push (seqObj "list" #[] 0) }
  rw [← hH]
  have hoH : H.get? a = some (seqObj "list" #[] e1) := by rw [hH]; exact Heap.get?_push_of_some _ (Heap.get?_push_of_some _ ho1)
  have keep : ∀ b o, b ≠ a → s.heap.get? b = some o → H.get? b = some o := fun b o hb e => by
    rw [hH]; exact Heap.get?_push_of_some _ (Heap.get?_push_of_some _ ((s1.2 b hb).trans e))
  have lw : Lw X s.heap X H := ⟨fun b o hb _ e => keep b o (fun q => hb (q ▸ ha)) e, fun _ h => .inl h⟩
  have hxH : All2 (fun u d => R d X H u) vs ds := hx.imp fun u d _ _ r => (g d).up lw r
  have fin : ∀ (us : List Value), All2 (fun u d => R d X H u) us es → P (.done (.ret .none)) { s with heap := H.update a (Obj.mapSeq fun _ => us.toArray) } := fun us hus => by
    have s2 := Heap.SameBut.update H a (Obj.mapSeq fun _ => us.toArray)
    refine k _ us ?_ (fun b o hb e => (s2.2 b hb).trans (keep b o hb e)) (hus.imp fun u d _ _ r => (g d).up ⟨fun b o hb _ e => (s2.2 b (fun q => hb (q ▸ ha))).trans e, fun _ h => .inl h⟩ r)
    exact plain_upd (⟨e1, hoH⟩ : H.PlainList a #[]) fun _ => us.toArray
  dsimp only
  by_cases h2 : vs.toArray.size < 2
  · rw [if_pos h2, if_pos h2]
    refine wpAny_bind (wpAny_pure ?_)
    rw [StateT.run_pure]
    refine wpAny_bind (wpAny_pure ?_)
    dsimp only
    refine wpAny_bind (seqEpoch_at hoH rfl ?_)
    have eo : (arrOf (SortSt.mk' general' (vs.toArray.zip vs.toArray) #[] 7 none)).map (·.2) = vs.toArray := by
      show (vs.toArray.zip vs.toArray).map (·.2) = vs.toArray
      apply Array.toList_inj.mp
      have : ∀ l : List Value, (l.zip l).map (·.2) = l := fun l => by rw [List.map_snd_zip (Nat.le_refl _)]
      simpa using this vs
    rw [eo]
    refine wpAny_bind (listUpdate_at hoH rfl ?_ (Nat.zero_le _) (by rw [List.size_toArray, sizeLine_eq]; omega))
    simp only [bne_self_eq_false, Bool.false_eq_true, if_false]
    refine wpAny_pure (fin vs ?_)
    have e : es = ds := by
      rw [List.size_toArray] at h2
      match es, ds, hp, hlen, hlen' with
      | [], [], _, _, _ => rfl
      | [x], [y], q, _, _ => have := q.mem_iff (a := x); simp at this; rw [this]
      | _ :: _ :: _, _, _, h3, h4 => simp at h4; omega
      | [], _ :: _, _, _, h4 => simp at h4
      | [_], [], _, _, h4 => simp at h4
      | [_], _ :: _ :: _, _, h3, h4 => simp at h4
    rw [e]; exact hxH
  · rw [if_neg h2, if_neg h2]
    rw [List.size_toArray] at h2
    obtain ⟨r1, r2, r3⟩ := rank_ok (@L.asym) hp hs
    have hty : ∀ v ∈ vs, Looks (model prog w) H (typeOf v) (.type T) := fun v hv => by
      obtain ⟨d, _, rd⟩ := hxH.mem hv
      exact fun A Q E s kp q => wpAny_typeOf (L.typ ((g d).up (Le.of_kp kp).lw rd)) q
    refine wpAny_bind (kas_kind (s := { s with heap := H }) (T := .type T) (by omega) hty (by simpa using hT) (by simp) ?_)
    let r : Nat → Nat := fun i => match ds[i]? with | some d => es.idxOf d | none => 0
    have hr : ∀ i (hi : i < ds.length), r i = es.idxOf ds[i] := fun i hi => by simp only [r]; rw [List.getElem?_eq_getElem hi]
    have run := kat_run (prog := prog) (w := w) (A := A) (E := E) (s := { s with heap := H }) (κ := oneType') (ks := vs) (vs := vs) (Q := fun st' s' => ∃ p : Array Nat, p.size = vs.length ∧ arrOf st' = p.map (kas_item (vs.toArray.zip vs.toArray)) ∧ failedOf st' = none ∧ (Mix vs.length p ∧ Up r p vs.length) ∧ s' = { s with heap := H })
      (G := fun p s' => (Mix vs.length p ∧ Up r p vs.length) ∧ s' = { s with heap := H }) rfl (by omega) (by omega) (fun p st' s' a1 a2 a3 a4 => ⟨p, a1, a2, a3, a4.1, a4.2⟩)
      (sat_wp (n := vs.length) (r := r) (Inv := fun s' => s' = { s with heap := H }) (fun i j C s' hi hj hiv hC => ?_) _ _ (sat_sort (by omega) (fun i j hi hj e => ?_) fun p' m u => ⟨m, u⟩) rfl)
    · refine wpAny_bind (wpAny_mono run ?_ fun _ _ e => e)
      rintro ⟨⟨⟩, st'⟩ s' ⟨p, hps, har, hf, ⟨hm, hup⟩, rfl⟩
      dsimp only
      refine wpAny_bind (seqEpoch_at hoH rfl ?_)
      rw [kat_snds rfl har]
      have hsz : (List.toArray (p.toList.map fun i => vs.getD i Value.none)).size = vs.length := by rw [List.size_toArray, List.length_map, Array.length_toList, hps]
      refine wpAny_bind (listUpdate_at hoH rfl ?_ (Nat.zero_le _) (Nat.le_trans (Nat.le_of_eq hsz) (by rw [sizeLine_eq]; omega)))
      rw [hf]
      simp only [bne_self_eq_false, Bool.false_eq_true, if_false]
      refine wpAny_pure (fin _ (all2_of (by simp; omega) fun i u d hu' hd' => ?_))
      have hi : i < vs.length := by have := (List.getElem?_eq_some_iff.mp hd').1; omega
      have hid : Kr r p i = i := up_id (f := Kr r p) (n := vs.length) hup (fun i hi => by
        show r (p.getD i 0) < _
        have := hm.lt hi
        rw [hr _ (by omega)]
        have := r2 (p.getD i 0) (by omega); omega) hi
      have hlt' := hm.lt hi
      have hid' : es.idxOf (ds[p.getD i 0]'(by omega)) = i := by rw [← hr _ (by omega)]; exact hid
      have hmem : ds[p.getD i 0]'(by omega) ∈ es := hp.mem_iff.mpr (List.getElem_mem _)
      have hed : es[i]? = some (ds[p.getD i 0]'(by omega)) := by
        have hl : es.idxOf (ds[p.getD i 0]'(by omega)) < es.length := List.idxOf_lt_length_iff.mpr hmem
        have := List.getElem_idxOf hl
        rw [List.getElem?_eq_getElem (by omega), ← this]
        congr 2
        exact hid'.symm
      rw [hed] at hd'; injection hd' with hd'
      have hu2 : u = vs[p.getD i 0]'(by omega) := by
        rw [List.getElem?_map] at hu'
        have e5 : p.toList[i]? = some (p.getD i 0) := by
          have : i < p.size := by omega
          simp [this]
        rw [e5] at hu'
        simp only [Option.map_some, Option.some.injEq] at hu'
        have gd : ∀ j (hj : j < vs.length), vs.getD j Value.none = vs[j] := fun j hj => by simp [hj]
        rw [← hu']; exact gd _ _
      obtain ⟨d2, hd2, rd⟩ := hxH.get (List.getElem?_eq_getElem (show p.getD i 0 < vs.length by omega))
      rw [List.getElem?_eq_getElem (by omega)] at hd2; injection hd2 with hd2
      rw [hu2, ← hd', hd2]; exact rd
    · subst hiv
      show wpAny (model prog w) A (keyLt' oneType' (vs.getD i Value.none) (vs.getD j Value.none)) C _ _
      rw [keyLt'_oneType]
      obtain ⟨d1, hd1, rd1⟩ := hxH.get (List.getElem?_eq_getElem hi)
      obtain ⟨d2, hd2, rd2⟩ := hxH.get (List.getElem?_eq_getElem hj)
      have g1 : vs.getD i Value.none = vs[i] := by simp [hi]
      have g2 : vs.getD j Value.none = vs[j] := by simp [hj]
      rw [g1, g2]
      refine L.lt hu rd1 rd2 ?_
      rw [List.getElem?_eq_getElem (by omega)] at hd1 hd2
      injection hd1 with hd1; injection hd2 with hd2
      rw [← hd1, ← hd2, r1 i j (by omega) (by omega), ← hr i (by omega), ← hr j (by omega)]
      exact hC _ rfl
    · rw [hr i (by omega), hr j (by omega)] at e
      exact r3 i j (by omega) (by omega) e
theorem b_sorted_of {R : α → Pr} {T : String} {n : Nat} (L : LtR R T n) (hT : T ≠ "tuple") (g : ∀ d, GR (R d)) {a : Value} {ds es : List α} (hc : Ev prog w A.in1 X h (collect a) (fun Y h' vs => All2 (fun u d => R d Y h' u) vs ds))
    (hp : es.Perm ds) (hs : es.Pairwise (· < ·)) (h64 : ds.length < 64) (hu : A.units + (n + 2) < cLine) : Ev prog w A X h (call (.builtin "sorted") [a]) (LsR R es) := fun Y s al le => by
  refine Calls.call_function_entry kind_sorted plain_sorted entry_sorted (args_sorted1 _) ?_
  unfold Builtin.«sorted»
  refine wpAny_bind (m := checkCount "sorted" 1 1 _) (wpAny_pure ?_)
  refine wpAny_bind (hc.use al le fun vs h₁ t₁ k₁ r => wpAny_bind (wpAny_newList ?_ (by have := r.length; rw [sizeLine_eq]; omega)))
  have na : h₁.get? h₁.objs.size = none := get_size _
  have ho : (h₁.push (seqObj "list" vs.toArray 0)).get? h₁.objs.size = some (seqObj "list" vs.toArray 0) := get_push _ _ rfl
  have kp : Kp h₁ (h₁.push (seqObj "list" vs.toArray 0)) := kp_push _ _
  refine wpAny_bind (wpAny_holding (wpAny_call_entry slot_list_sort ⟨_, ho, rfl⟩ entry_list_sort ?_ (args_list_sort _)))
  refine list_sort_at (s := { s with heap := h₁.push (seqObj "list" vs.toArray 0), toks := t₁ }) (X := h₁.objs.size :: Y) L hT g (.head _) (((al.up k₁).up kp).cons ho) ho (r.imp fun u d _ _ f => (g d).up (Le.add kp na).lw f) hp hs h64 (by simp; omega) fun h' us hl hk hx => ⟨_, rfl, ?_⟩
  refine wpAny_pure ⟨_, rfl, h', t₁, rfl, fun b o e => hk b o (by rintro rfl; rw [k₁ _ _ e] at na; cases na) (kp b o (k₁ b o e)), _, us, rfl, (al.up k₁).not na, hl, hx.imp fun u d _ _ f => (g d).up (Lw.sub fun b hb => .tail _ hb) f⟩
theorem ev_collect_list {β : Type} {R : β → Pr} (g : ∀ d, GR (R d)) {a : Value} {ds : List β} (ra : LsR R ds X h a) (h64 : ds.length ≤ 1000000) : Ev prog w A X h (collect a) (fun Y h' vs => All2 (fun u d => R d Y h' u) vs ds) := fun Y s al le => by
  obtain ⟨l, vs, rfl, _, hl, hx⟩ := (gr_ls g ds).up le.lw ra
  have kp : Kp s.heap ((s.heap.push (seqObj "list" #[] 0)).update s.heap.objs.size (Obj.mapSeq (· ++ vs.toArray))) := fun b o e => by
    have hlt : b < s.heap.objs.size := Heap.lt_size e
    rw [Heap.get?_update_ne _ _ _ _ (Nat.ne_of_lt hlt), Heap.get?_push_ne _ _ _ (Nat.ne_of_lt hlt)]; exact e
  exact collect_list hl.isList ⟨_, s.toks, rfl, kp, hx.imp fun u d _ _ f => (g d).up (Le.of_kp kp).lw f⟩ (by have := hx.length; rw [sizeLine_eq]; omega)
theorem b_sorted {R : α → Pr} {T : String} {n : Nat} (L : LtR R T n) (hT : T ≠ "tuple") (g : ∀ d, GR (R d)) {a : Value} {ds es : List α} (ra : LsR R ds X h a)
    (hp : es.Perm ds) (hs : es.Pairwise (· < ·)) (h64 : ds.length < 64) (hu : A.units + (n + 2) < cLine) : Ev prog w A X h (call (.builtin "sorted") [a]) (LsR R es) :=
  b_sorted_of L hT g (ev_collect_list g ra (by omega)) hp hs h64 hu
end
end Mine
end

section
namespace Mine
open PySem PySem.W PyProof.Rows PySem.Calls PySem.SeqAt
set_option maxRecDepth 100000

/-! dict.fromkeys -/
def fkB : Obj := { cls := .type "builtin_function_or_method", data := .fields #[.builtin "dict.fromkeys", .type "dict"] }
theorem fk_type : typeOf (.builtin "dict.fromkeys") = pure (.type "classmethod_descriptor") := by show builtinType _ = _; rw [builtinType_eq_fast]; kernel_rfl
theorem fk_entry : entryFor table "dict.fromkeys" = some Builtin.«dict.fromkeys» := entryFor_of_tree (by kernel_rfl)
theorem fk_entry_loop : entryFor table "dict.fromkeys.loop" = some Builtin.«dict.fromkeys.loop» := entryFor_of_tree (by kernel_rfl)
theorem fk_plain_loop : plainId "dict.fromkeys.loop" = true := by decide +kernel
theorem fk_quiet {as : Args} : (Code.builtin "dict.fromkeys" as).quiet = true := Code.quiet_builtin _ (by decide +kernel)
theorem fk_isType : isType (.type "dict") = pure true := by first | rfl | kernel_rfl
theorem fk_sub : isSubtype (.type "dict") (.type "dict") = pure true := by rw [isSubtype_type]; kernel_rfl
theorem fk_owner : (kfb_private% "ownerAndName") "dict.fromkeys" = ("dict", "fromkeys") := by first | decide +kernel | kernel_rfl
theorem fk_find : findCls [] (.type "dict") (.type "type") (Str.ofString "fromkeys") = some (.get (.builtin "classmethod_descriptor.__get__") (.builtin "dict.fromkeys") .none (.type "dict")) := by first | rfl | kernel_rfl
section
variable {prog : Program} {w : World} {M : Model} {A : Around} {E : Value → Shared → Prop} {s : Shared}
theorem fk_get {P : PySem.Fin → Shared → Prop} (h : P (.done (.ret (.ref s.heap.objs.size))) { s with heap := s.heap.push fkB }) :
    wpAny M A (Builtin.«classmethod_descriptor.__get__» ⟨[.builtin "dict.fromkeys", .none, .type "dict"], []⟩) P E s := by
  unfold Builtin.«classmethod_descriptor.__get__»
  refine wpAny_bind (wpAny_of_eq (a := (.builtin "dict.fromkeys", none, some (.type "dict"))) (by first | rfl | kernel_rfl) ?_)
  simp only [fk_owner]
  refine wpAny_bind (wpAny_of_eq (a := .type "dict") rfl ?_)
  refine wpAny_bind (wpAny_of_eq (a := true) fk_isType ?_)
  refine KFB.if_not rfl ?_
  refine wpAny_bind (wpAny_of_eq (a := true) fk_sub ?_)
  refine KFB.if_not rfl ?_
  exact wpAny_bind (wpAny_newObj_type (wpAny_pure h))
theorem fk_getm {pl : Sem Bool} {Q : Value × List Value → Shared → Prop} (h : Q (.ref s.heap.objs.size, []) { s with heap := s.heap.push fkB, toks := s.toks + 1 }) :
    wpAny (model prog w) A (getMethod (.type "dict") (Str.ofString "fromkeys") pl) Q E s := by
  have X : Frag.In [] s.heap := fun a o e => by cases e
  have hstub : opaqueClassAbove (.type "dict") = pure none := by unfold opaqueClassAbove; dsimp only; rw [show Manifest.isStub "dict" = false by decide +kernel]; rfl
  have ht : typeOf (.type "dict") = pure (.type "type") := by first | rfl | kernel_rfl
  have L0 : Looks (model prog w) s.heap (typeOf (.type "dict")) (.type "type") := Looks.of_pure ht
  have hg : findIn [] (.type "type") "__getattribute__" = some (some (.builtin "type.__getattribute__")) := type_tga
  unfold getMethod specialOf
  refine wpAny_bind (wpAny_bind (L0.here ((looks_findIn X hg).here ?_)))
  dsimp only
  rw [if_pos canon_tga]
  refine wpAny_bind (wpAny_mono (Q := fun v => Q (v, [])) (E := E) ?_ (fun _ _ z => wpAny_pure z) fun _ _ z => z)
  have LO : Looks (model prog w) s.heap (opaqueClassAbove (.type "dict")) none := Looks.of_pure hstub
  refine cls_open X LO L0 hg (looks_hook X (r := none) (by rfl)) (by show subIn [] _ _ = _; rfl) fk_find ?_
  show wpAny _ _ (holding [.builtin "dict.fromkeys"] (call (.builtin "classmethod_descriptor.__get__") [.builtin "dict.fromkeys", .none, .type "dict"]) >>= fun v => ret v) _ _ _
  refine wpAny_bind (wpAny_holding (wpAny_call_entry KFB.slot_get fk_type KFB.entry_get (fk_get ⟨_, rfl, wpAny_pure (wpAny_pure h)⟩) (KFB.args_get _ _ _)))
theorem fk_callWith {pos : Pos} {u : Addr} {args : List (Bool × Sem Value)} {Q : Value → Shared → Prop} (hplain : args.any (·.1) = false)
    (h : wpAny M A (evalArgs (.ref u) true args []) (fun x s₁ => s₁.heap.get? u = some fkB ∧ wpAny M A (call (.ref u) x.pos x.kw) Q E s₁) E s) : wpAny M A (callWith pos (.ref u) [] args []) Q E s := by
  unfold callWith
  refine wpAny_bind (wpAny_holding (wpAny_mono h (fun x s₁ h₁ => wpAny_bind (wpAny_standAt ?_)) fun _ _ x => x))
  obtain ⟨ho, hcall⟩ := h₁
  simp only [hplain, List.any_nil, Bool.or_false]
  refine wpAny_bind (m := keeperOf (.ref u)) ?_
  unfold keeperOf
  refine wpAny_bind (wpAny_load ho ?_)
  simp only [fkB, show (Value.type "builtin_function_or_method" != Value.type "method") = true by decide, show (Value.type "builtin_function_or_method" == Value.type "builtin_function_or_method" || Value.type "builtin_function_or_method" == Value.type "method-wrapper") = true by decide, if_true]
  refine wpAny_pure ?_
  exact wpAny_bind (wpAny_mono hcall (fun r s₂ hr => wpAny_bind (wpAny_holding (wpAny_point (wpAny_pure hr)))) fun _ _ x => x)
theorem fk_check {v : Value} : checkBoundCall "dict.fromkeys" ⟨[.type "dict", v], []⟩ = pure () := by first | kernel_rfl | rfl
theorem fk_call {x : Addr} {v : Value} {Q : Value → Shared → Prop} (ho : s.heap.get? x = some fkB)
    (tree : codeAny (model prog w) A (.builtin "dict.fromkeys" ⟨[.type "dict", v], []⟩) (wants Q E) s) : wpAny (model prog w) A (call (.ref x) [v]) Q E s := by
  refine wpAny_call (codeAny_of_tree ?_)
  show wpAny _ A.in1 (callAny (.ref x) ⟨[v], []⟩) _ _ s
  simp only [callAny]
  refine wpAny_bind (wpAny_load ho ?_)
  simp only [fkB, show (Value.type "builtin_function_or_method" == Value.type "method" || Value.type "builtin_function_or_method" == Value.type "builtin_function_or_method" || Value.type "builtin_function_or_method" == Value.type "method-wrapper") = true by decide, if_true]
  refine KFB.if_so (by decide) ?_
  refine wpAny_bind (wpAny_of_eq (a := ()) fk_check ?_)
  refine wpAny_bind (wpAny_pure (wpAny_pure ?_))
  exact ⟨fk_quiet, tree⟩
theorem fk_newCall : checkBuiltinCall "dict.__new__" ⟨[.type "dict"], []⟩ = pure () := by kernel_rfl
theorem fk_typeCall : checkTypeCall "dict" ⟨[], []⟩ = pure () := by kernel_rfl
theorem fk_args0 (a : Value) : argsOk "dict.__init__" ⟨[a], []⟩ := by unfold argsOk; kernel_rfl
theorem fk_new0 {Q₁ : Value → Shared → Prop} (h : Q₁ (.ref s.heap.objs.size) { s with heap := s.heap.push { cls := .type "dict", data := .dict #[] } }) :
    codeAny (model prog w) A (.call (.builtin "dict.__new__") ⟨[.type "dict"], []⟩) (wants Q₁ E) s := by
  refine codeAny_call_builtin PySem.F.kt_plain_dict_new PySem.F.kt_entry_dict_new (wpAny_of_eq fk_newCall ?_)
  have hsub := PySem.F.kt_sub_dict
  have hmro := PySem.F.kt_mro_dict
  obtain ⟨hp, g, d, tk, os⟩ := s
  unfold Builtin.«dict.__new__»
  wp_walk
  exact h
theorem fk_dict {Q : Value → Shared → Prop} (h : Q (.ref s.heap.objs.size) { s with heap := s.heap.push { cls := .type "dict", data := .dict #[] } }) :
    wpAny (model prog w) A (call (.type "dict") []) Q E s := by
  refine callType_codes (Q₁ := fun obj s₁ => obj = .ref s.heap.objs.size ∧ s₁ = { s with heap := s.heap.push { cls := .type "dict", data := .dict #[] } }) PySem.F.kt_called_dict fk_typeCall PySem.F.entry_dict_init (fk_new0 ⟨rfl, rfl⟩) ?_
  rintro obj s₁ ⟨rfl, rfl⟩
  have hT : ({ s with heap := s.heap.push { cls := .type "dict", data := .dict #[] } } : Shared).TypeIs (.ref s.heap.objs.size) "dict" := ⟨_, get_push _ _ rfl, rfl⟩
  refine ⟨hT, fk_args0 _, ?_⟩
  unfold Builtin.«dict.__init__»
  refine wpAny_bind ?_
  unfold Builtin.Dict.selfAndRest
  refine wpAny_bind (wpAny_notOrdered_dict hT ?_)
  show wpAny _ _ (pure (s.heap.objs.size, ([] : List Value))) _ _ _
  refine wpAny_pure ?_
  show wpAny _ _ (Builtin.Dict.addKeywords s.heap.objs.size [] >>= _) _ _ _
  exact wpAny_bind (wpAny_pure (wpAny_pure ⟨rfl, h⟩))
end

/-! texts as keys -/
def txIs (o : Bool) (l : List Nat) : Value → Bool
  | .str x _ => !o && decide (x.cps.toList = l)
  | .bytes b _ => o && decide (b.toList.map UInt8.toNat = l)
  | _ => false
theorem txIs_iff {o : Bool} {l : List Nat} {v : Value} {X : List Addr} {h : Heap} : txIs o l v = true ↔ TxR o l X h v := by
  cases o with
  | false =>
    constructor
    · intro q
      cases v <;> simp [txIs] at q
      rename_i x t
      subst q
      exact ⟨t, by simp⟩
    · rintro ⟨t, rfl⟩; simp [txIs]
  | true =>
    constructor
    · intro q
      cases v <;> simp [txIs] at q
      rename_i x t
      exact ⟨_, t, rfl, q⟩
    · rintro ⟨b, t, rfl, q⟩; simp [txIs, q]
theorem txHash_bytes {prog : Program} {w : World} {A : Around} {E : Value → Shared → Prop} {s : Shared} {b : Array UInt8} {t : Tok} {Q : Int → Shared → Prop} (h : Q (reduceHash (hashStr w ⟨(b.toList.map UInt8.toNat).toArray⟩)) { s with toks := s.toks + 1 }) :
    wpAny (model prog w) A (pyHash (.bytes b t)) Q E s := by
  refine pyHash_slot (T := "bytes") rfl FB.slot_bytes_hash FB.entry_bytes_hash (FB.args_bytes_hash_1 _) (beq_builtin_none _) (.inl rfl) ?_
  show wpAny _ _ (strHash ⟨b.map (·.toNat)⟩ >>= fun i => (do ret (← mkInt i))) _ _ s
  have e : b.map (·.toNat) = (b.toList.map UInt8.toNat).toArray := by apply Array.toList_inj.mp; simp
  rw [e]
  unfold strHash
  exact wpAny_bind (wpAny_bind (wpAny_askSetting (wpAny_pure (wpAny_bind (wpAny_mkInt (wpAny_pure ⟨_, _, rfl, h⟩))))))
def txKind (o : Bool) (prog : Program) (w : World) : PySem.KeyKind prog w (List Nat) where
  is := txIs o
  hash l := if o then reduceHash (hashStr w ⟨l.toArray⟩) else hashStr w ⟨l.toArray⟩
  inj := fun v a b ha hb => (eqr_tx o).one (X := []) (h := default) (txIs_iff.mp ha) (txIs_iff.mp hb)
  byValue := fun k v h => by
    have r := (txIs_iff (X := []) (h := default)).mp h
    cases o with
    | false => obtain ⟨t, rfl⟩ := r; rfl
    | true => obtain ⟨b, t, rfl, _⟩ := r; rfl
  pyHash := fun {A E s k v Q} hv h => by
    have r := (txIs_iff (X := []) (h := default)).mp hv
    cases o with
    | false => obtain ⟨t, rfl⟩ := r; exact wpAny_pyHash_str h
    | true => obtain ⟨b, t, rfl, rfl⟩ := r; exact txHash_bytes h
  eqBool := fun {A E s a b u v Q} hu hv h => by
    have r := (txIs_iff (X := []) (h := s.heap)).mp hu
    have r' := (txIs_iff (X := []) (h := s.heap)).mp hv
    cases o with
    | false =>
      obtain ⟨t, rfl⟩ := r
      obtain ⟨u, rfl⟩ := r'
      refine wpAny_eqBool_str ?_
      have e : decide ((⟨a.toArray⟩ : Str) = ⟨b.toArray⟩) = decide (a = b) := decide_eq_decide.mpr ⟨fun q => by simpa using q, fun q => by rw [q]⟩
      rw [e]; exact h
    | true =>
      obtain ⟨x, t, rfl, rfl⟩ := r
      obtain ⟨y, u, rfl, rfl⟩ := r'
      refine eqBool_bytes ?_
      have e : decide (x.toList = y.toList) = decide (x.toList.map UInt8.toNat = y.toList.map UInt8.toNat) := decide_eq_decide.mpr ⟨fun q => by rw [q], toNat_inj⟩
      rw [e]; exact h
  «strs» := fun k x t v h => by
    cases o with
    | true => simp [txIs] at h
    | false =>
      have hk : x.cps.toList = k := by simpa [txIs] using h
      subst hk
      cases v <;> simp [txIs, Value.isStr]
      rename_i y u
      by_cases e : y = x
      · subst e; simp
      · have : ¬ y.cps = x.cps := fun q => e (by cases x; cases y; simpa using q)
        simp [e, this]
end Mine
end

section
namespace Mine
open PySem PySem.W PyProof.Rows PySem.Calls PySem.SeqAt
set_option maxRecDepth 100000

def DcR (prog : Program) (w : World) (o : Bool) (ds : List (List Nat)) : Pr := fun X h v => ∃ d kvs, v = .ref d ∧ (d == sysModules) = false ∧ h.DictOf (txKind o prog w) d kvs ∧ kvs.map (·.1) = ds
theorem stored_keys {kvs : List (List Nat × Value)} {k : List Nat} {v : Value} : (stored kvs k v).map (·.1) = addNew (kvs.map (·.1)) k := by
  unfold stored addNew
  by_cases e : k ∈ kvs.map (·.1)
  · rw [if_pos e, if_pos ?_, List.map_map]
    · refine List.map_congr_left fun kv _ => ?_
      simp only [Function.comp_apply]
      split <;> rfl
    · obtain ⟨kv, h1, h2⟩ := List.mem_map.mp e
      exact List.any_eq_true.mpr ⟨kv, h1, by simpa using h2⟩
  · rw [if_neg e, if_neg ?_, List.map_append]; · rfl
    intro q
    obtain ⟨kv, h1, h2⟩ := List.any_eq_true.mp q
    exact e (List.mem_map.mpr ⟨kv, h1, by simpa using h2⟩)
theorem fk_plain : plainId "dict.fromkeys" = true := by decide +kernel

section
variable {prog : Program} {w : World} {A : Around} {E : Value → Shared → Prop} {X : List Addr} {h : Heap} {env : Env} {pos : Pos}
theorem fk_loop {o : Bool} {ds : List (List Nat)} {D I : Addr} {fp : List Addr} {P : Nat → Value → Prop} {St : Nat → Heap → Prop} {R : Result → Shared → Prop} (hsz : ds.length ≤ 1000000) (W : Walks prog w A.in1 I fp [I] ds.length P St)
    (hP : ∀ i v d, P i v → ds[i]? = some d → TxR o d [] default v) (hDI : D ≠ I) (hDf : D ∉ fp) : ∀ (k i : Nat) (s : Shared) (kvs : List (List Nat × Value)), k = ds.length - i → i ≤ ds.length → St i s.heap → s.heap.DictOf (txKind o prog w) D kvs → kvs.map (·.1) = dedupL (ds.take i) →
      (∀ h' tk kvs, (∀ b o, b ≠ I → b ≠ D → s.heap.get? b = some o → h'.get? b = some o) → h'.DictOf (txKind o prog w) D kvs → kvs.map (·.1) = dedupL ds → R (.ok (.ret (.ref D))) { s with heap := h', toks := tk }) →
      codeAny (model prog w) A (.builtin "dict.fromkeys.loop" ⟨[.ref D, .ref I, .none], []⟩) R s := by
  intro k
  induction k with
  | zero =>
    intro i s kvs hk hi st hd hkv hR
    have : i = ds.length := by omega
    subst this
    refine codeAny_builtin fk_entry_loop ?_
    rw [Around.under_plainId fk_plain_loop _]
    unfold Builtin.«dict.fromkeys.loop»
    refine wpAny_bind (W.done s _ _ st fun h' tk kb => ?_)
    have kb' : ∀ b o, b ≠ I → s.heap.get? b = some o → h'.get? b = some o := fun b o hb e => kb b o (by simpa using hb) e
    rw [List.take_length] at hkv
    exact wpAny_pure (hR h' tk kvs (fun b o h1 _ e => kb' b o h1 e) (hd.at fun o e => kb' D o hDI e) hkv)
  | succ k ih =>
    intro i s kvs hk hi st hd hkv hR
    have hlt : i < ds.length := by omega
    refine codeAny_builtin fk_entry_loop ?_
    rw [Around.under_plainId fk_plain_loop _]
    unfold Builtin.«dict.fromkeys.loop»
    refine wpAny_bind (W.item i s _ _ hlt st fun v h' tk hPv st' kb => ?_)
    have kb' : ∀ b o, b ≠ I → s.heap.get? b = some o → h'.get? b = some o := fun b o hb e => kb b o (by simpa using hb) e
    have hget : ds[i]? = some ds[i] := List.getElem?_eq_getElem hlt
    have hkey : (txKind o prog w).is ds[i] v = true := txIs_iff.mpr (hP i v _ hPv hget)
    have hd' : h'.DictOf (txKind o prog w) D kvs := hd.at fun o e => kb' D o hDI e
    have hlen : kvs.length ≤ ds.length := by
      have := congrArg List.length hkv
      have h2 := dedupL_len (ds.take i)
      rw [List.length_map] at this
      rw [List.length_take] at h2
      omega
    refine wpAny_bind (wpAny_typeOf (s := { s with heap := h', toks := tk }) hd'.typeIs ?_)
    rw [if_pos (by decide)]
    refine wpAny_bind (m := Builtin.Dict.addrOf (.ref D)) (wpAny_pure ?_)
    refine wpAny_bind (wpAny_holding (wpAny_dictSet_pairs (s := { s with heap := h', toks := tk }) hkey hd' (fun h'' hd'' hs => ?_) (by rw [sizeLine_eq]; omega)))
    refine wpAny_pure ⟨plainId_quiet fk_plain_loop _, ?_⟩
    have st'' : St (i + 1) h'' := W.frame _ _ _ st' fun b hb o e => hs.extBut b o (fun q => hDf (q ▸ hb)) e
    refine ih (i + 1) { s with heap := h'', toks := _ } _ (by omega) hlt st'' hd'' (by rw [stored_keys, hkv, dedupL_take hget]) fun h3 tk3 kvs3 k3 hd3 e3 => ?_
    exact hR h3 tk3 kvs3 (fun b o h1 h2 e => k3 b o h1 h2 (hs.extBut b o h2 (kb' b o h1 e))) hd3 e3
theorem b_fromkeys {o : Bool} {ds : List (List Nat)} {x : Addr} {v : Value} (hA : A.handled = none) (lim : h.NoLimit) (ho : h.get? x = some fkB) (rv : LsR (TxR o) ds X h v) (hsz : ds.length ≤ 1000000) : Ev prog w A X h (call (.ref x) [v]) (DcR prog w o (dedupL ds)) := fun Y s al le => by
  have rv1 := (gr_ls (gr_tx o) ds).up le.lw rv
  refine fk_call (le.kp _ _ ho) (codeAny_builtin fk_entry ?_)
  rw [Around.under_plainId fk_plain _]
  unfold Builtin.«dict.fromkeys»
  refine wpAny_bind (wpAny_of_eq (a := true) fk_isType ?_)
  refine KFB.if_not rfl ?_
  refine wpAny_bind (wpAny_of_eq (a := true) fk_sub ?_)
  refine KFB.if_not rfl ?_
  refine KFB.if_not rfl ?_
  refine wpAny_bind (wpAny_rule (wpAny_bind (wpAny_pure ?_)))
  refine wpAny_bind (fk_dict ?_)
  refine wpAny_holding ?_
  have kp := kp_push s.heap { cls := .type "dict", data := .dict #[] }
  have nD : s.heap.get? s.heap.objs.size = none := get_size _
  have hD : (s.heap.push { cls := .type "dict", data := .dict #[] }).DictOf (txKind o prog w) s.heap.objs.size [] := Heap.DictOf.new s.heap
  have rv2 : LsR (TxR o) ds (s.heap.objs.size :: Y) (s.heap.push { cls := .type "dict", data := .dict #[] }) v := (gr_ls (gr_tx o) ds).up (Le.add kp nD).lw rv1
  have rv3 := rv2
  obtain ⟨l, vs, rfl, nl, hl, hx⟩ := rv3
  refine wpAny_bind (wpAny_typeOf (s := { s with heap := s.heap.push { cls := .type "dict", data := .dict #[] } }) hl.isList.typeIs ?_)
  refine wpAny_bind (wpAny_typeOf (s := { s with heap := s.heap.push { cls := .type "dict", data := .dict #[] } }) hD.typeIs ?_)
  refine KFB.if_not (by decide) ?_
  refine wpAny_bind (wpAny_typeOf (s := { s with heap := s.heap.push { cls := .type "dict", data := .dict #[] } }) hD.typeIs ?_)
  refine KFB.if_not (by decide) ?_
  have al2 : Al (s.heap.objs.size :: Y) (s.heap.push { cls := .type "dict", data := .dict #[] }) := (al.up kp).cons (get_push _ _ rfl)
  refine wpAny_bind ((ev_iter_list (A := A.in1) hA (gr_tx o) rv2).here (s := { s with heap := s.heap.push { cls := .type "dict", data := .dict #[] } }) al2 fun it h₂ t₂ k₂ hI => ?_)
  obtain ⟨I, fp, P, St, rfl, nI, W, st, hfp, hlv, hP⟩ := hI
  refine wpAny_pure ⟨plainId_quiet fk_plain_loop _, ?_⟩
  have hDI : s.heap.objs.size ≠ I := by rintro rfl; rw [get_push _ _ rfl] at nI; cases nI
  refine fk_loop (s := { s with heap := h₂, toks := t₂ }) hsz W (fun i v d a b => hP i v d a b) hDI (fun q => ?_) ds.length 0 [] rfl (Nat.zero_le _) st (hD.at fun o e => k₂ _ o e) rfl fun h' tk kvs kb hd e => ?_
  · rcases hfp _ q with e | ⟨e, _⟩
    · exact hDI e
    · exact e (.head _)
  · have kp' : Kp s.heap h' := fun b o e => kb b o (by rintro rfl; rw [kp _ _ e] at nI; cases nI) (by rintro rfl; rw [nD] at e; cases e) (k₂ b o (kp b o e))
    refine ⟨h', tk, rfl, kp', _, kvs, rfl, ?_, hd, e⟩
    have := modules_low (lim.keeps le.kp)
    exact beq_eq_false_iff_ne.mpr (Nat.ne_of_gt this)
theorem ev_fromkeys {np apos : Pos} {e : Expr} {o : Bool} {ds : List (List Nat)} (hA : A.handled = none) (lim : h.NoLimit) (S : See env h (Str.ofString "dict") (.type "dict")) (he : Ev prog w A X h (eval e env) (LsR (TxR o) ds)) (hsz : ds.length ≤ 1000000)
    (hk : env.scope.kind = .function) (hbase : attributeBase (.Name (Str.ofString "dict") np) (Str.ofString "fromkeys") env (eval (.Name (Str.ofString "dict") np) env) = eval (.Name (Str.ofString "dict") np) env) (hs : starEach [e] env = [(false, eval e env)]) (hline : (apos.endLine == pos.line) = true) :
    Ev prog w A X h (eval (.Call (.Attribute (.Name (Str.ofString "dict") np) (Str.ofString "fromkeys") apos) [e] [] pos) env) (DcR prog w o (dedupL ds)) := fun Y s al le => by
  rw [arm_eval_Call, hbase]
  refine wpAny_bind (see_load (S.up le.kp) hk (by decide) ?_)
  refine wpAny_bind (wpAny_standAt ?_)
  have hform : methodCallForm ([e].length + ([] : List Keyword).length) (backTo pos (starEach [e] env)) (backToKw pos (keywordEach [] env)) = true := by rw [hs]; rfl
  have hpos : methodCallPos true (.Name (Str.ofString "dict") np) env apos pos = pure pos := by unfold methodCallPos; simp [hline]
  unfold methodCall
  rw [hform]
  refine wpAny_bind (wpAny_holding (fk_getm ?_))
  refine wpAny_bind (wpAny_of_eq hpos ?_)
  rw [hs]
  have kp := kp_push s.heap fkB
  refine fk_callWith rfl (evalArgs_plain (spliced_cons (he.use (s := { s with heap := s.heap.push fkB, toks := s.toks + 1 }) (al.up kp) (le.step kp) fun v h₁ t₁ k₁ r => spliced_nil ?_)))
  have ho : h₁.get? s.heap.objs.size = some fkB := k₁ _ _ (get_push _ _ rfl)
  refine ⟨ho, (b_fromkeys hA (lim.keeps (le.kp.trans (kp.trans k₁))) ho r hsz).here (s := { s with heap := h₁, toks := t₁ }) ((al.up kp).up k₁) fun u h₂ t₂ k₂ r₂ => ⟨h₂, t₂, rfl, (kp.trans k₁).trans k₂, r₂⟩⟩
theorem c_dedupD {k : Nat} {fa : Nat → Addr} {o : Bool} {ds : List (List Nat)} {v : Value} (hA : Ok (k + 1) A) (B : Bs fa h) (rv : LsR (TxR o) ds X h v) (hsz : ds.length ≤ 1000000) : Ev prog w A X h (call (.ref (fa 3)) [v]) (DcR prog w o (dedupL ds)) := fun Y s al le => by
  have B1 := B.up le.kp
  obtain ⟨ob, nm, q, doc, pm, an, cd, ct, kd, mk, u, e1, e2, e3, e4, e5⟩ := B1.d3
  have hb : BindsTo s (ffd 3 nm q (.ref kd) doc pm an cd ct) ⟨[v], []⟩ [(Str.ofString "params", v), (Str.ofString "unhashable_fallback", u)] := by
    intro M A E Q hq
    unfold bindArgs
    refine wpAny_bind (wpAny_of_eq (a := ([(Str.ofString "params", v)], [])) rfl ?_)
    refine wpAny_bind (wpAny_of_eq (a := none) rfl ?_)
    refine KFB.if_not rfl ?_
    refine KFB.if_not rfl ?_
    refine wpAny_bind (wpAny_of_eq (a := [(Str.ofString "params", v)]) rfl ?_)
    refine wpAny_bind ?_
    show wpAny M A (forIn [Str.ofString "unhashable_fallback"] _ _) _ E s
    rw [List.forIn_cons]
    refine wpAny_bind (KFB.if_so rfl (wpAny_bind (wpAny_nsGet e4 ?_)))
    rw [e5]
    refine wpAny_pure ?_
    dsimp only
    rw [List.forIn_nil]
    refine wpAny_pure ?_
    exact wpAny_of_eq rfl hq
  refine wpAny_call (codeAny_call_def (fd := ffd 3 nm q (.ref kd) doc pm an cd ct) (by have := hA.depth; rw [recursionLimit]; omega) e1 e2 B1.lim e3 rfl hb (show ∀ x ∈ (fscope 3).names, x.2 ≠ .cell by decide) ?_ (fun h₁ hns hkeep => ?_) rfl rfl rfl)
  · intro x hx
    rcases List.mem_cons.mp hx with rfl | hx
    · rfl
    · rw [List.mem_singleton.mp hx]; rfl
  have kp₁ : Kp s.heap h₁ := hkeep
  have rv1 : LsR (TxR o) ds Y h₁ v := (gr_ls (gr_tx o) ds).up (le.step kp₁).lw rv
  have B2 := B1.up kp₁
  refine wpAny_execs_cons (wpAny_Try_except (wpAny_execs_cons (wpAny_Return_some ?_)))
  refine Ev.here (s := { s with heap := h₁, toks := _ }) (X := Y) (R := DcR prog w o (dedupL ds)) ?_ (al.up kp₁) fun u h₂ t₂ k₂ r₂ => ⟨h₂, t₂, rfl, kp₁.trans k₂, r₂⟩
  exact ev_fromkeys (o := o) (ds := ds) hA.handled B2.lim (B2.b (v := .type "dict") (by simp [bnames]) rfl rfl rfl) (ev_name (.loc rfl hns rfl) (gr_ls (gr_tx o) ds) rv1 rfl (by decide)) hsz rfl rfl rfl rfl
theorem ev_collect_dict {o : Bool} {ds : List (List Nat)} {a : Value} (hA : A.handled = none) (hsz : ds.length ≤ 1000000) (ra : DcR prog w o ds X h a) {s : Shared} (hs : s.heap = h) {Q : List Value → Shared → Prop}
    (k : ∀ vs h' tk, Kp s.heap h' → All2 (fun u d => TxR o d [] default u) vs ds → Q vs { s with heap := h', toks := tk }) : wpAny (model prog w) A (collect a) Q E s := by
  obtain ⟨d, kvs, rfl, lo, hd, hk⟩ := ra
  subst hs
  obtain ⟨ep, hat⟩ := hd.dictAt
  have hlen : kvs.length = ds.length := by have := congrArg List.length hk; simpa using this
  refine kdu_collect (kdl_dict (knd := txKind o prog w) (kvs := kvs) (ep := ep) lo) hA hat (by rw [sizeLine_eq]; omega) fun h' tk acc kp hacc => ?_
  refine k acc.toList h' tk kp (all2_of (by rw [Array.length_toList, hacc.1]; exact hlen) fun i v d' hv hd' => ?_)
  obtain ⟨kk, x, hx, his⟩ := hacc.2 i v (by rw [← Array.getElem?_toList]; exact hv)
  have : (kvs.map (·.1))[i]? = some kk := by rw [List.getElem?_map, hx]; rfl
  rw [hk, hd'] at this
  injection this with this
  subst this
  exact txIs_iff.mp his
end
end Mine
end

section
set_option maxRecDepth 100000
namespace Mine
open PySem PySem.W PyProof.Rows PySem.Calls PySem.SeqAt

def ups (w : List Nat) : List (List Nat) := (List.range (w.length + 1)).map fun k => w.take k
def aboveL (ws : List (List Nat)) : List (List Nat) := ws.flatMap fun w => (ups w).map pth
theorem parts_len (w : List Nat) : (parts w).length = w.length + 1 := by simp [parts]
theorem sjoin_up : ∀ wd ∈ W15, ∀ k ∈ List.range (wd.length + 1), Txt.join ⟨[47].toArray⟩ (((parts wd).take (k + 1)).map fun p => ⟨p.toArray⟩) = ⟨(pth (wd.take k)).toArray⟩ := by decide
theorem sjoin_upN : ∀ wd ∈ W15, ∀ k ∈ List.range (wd.length + 1), ((((parts wd).take (k + 1)).map (·.length)).sum + ((parts wd).take (k + 1)).length * [47].length) ≤ 16777216 := by decide
theorem bjoin_up : ∀ wd ∈ W15, ∀ k ∈ List.range (wd.length + 1), (Builtin.Bytes.joined (bArr [47]) (((parts wd).take (k + 1)).map bArr)).toList.map UInt8.toNat = pth (wd.take k) := by decide
theorem bjoin_up1 : ∀ wd ∈ W15, ∀ k ∈ List.range (wd.length + 1), ((((parts wd).take (k + 1)).map bArr).foldl (· + ·.size) ((bArr [47]).size * ((((parts wd).take (k + 1)).map bArr).length - 1))) ≤ 64 := by decide
theorem bjoin_up2 : ∀ wd ∈ W15, ∀ k ∈ List.range (wd.length + 1), (Builtin.Bytes.joined (bArr [47]) (((parts wd).take (k + 1)).map bArr)).size ≤ 64 := by decide

section
variable {prog : Program} {w : World} {A : Around} {X : List Addr} {h : Heap} {fa : Nat → Addr} {env : Env}
theorem ev_args_one {p : Pos} {e : Expr} {R : Pr} (h1 : Ev prog w A X h (eval e env) R) (he : starEach [e] env = (false, eval e env) :: starEach [] env) : Ev prog w A X h (spliced (backTo p (starEach [e] env))) (Ls2 [R]) := fun Y s al le =>
  spliced_more (h1.use al le fun v h₁ t₁ k₁ r => spliced_none ⟨h₁, t₁, rfl, k₁, v, [], rfl, r, rfl⟩) he
theorem b_join {o : Bool} {wd : List Nat} {k : Nat} {a b : Value} (hw : wd ∈ W15) (hk : k ∈ List.range (wd.length + 1)) (ra : TxR o [47] X h a) (rb : LsR (TxR o) ((parts wd).take (k + 1)) X h b) : Ev prog w A X h (call (.builtin (if o then "bytes.join" else "str.join")) [a, b]) (TxR o (pth (wd.take k))) := by
  have sl : ∀ {n : Nat}, n ≤ 1000000 → n ≤ sizeLine := fun h => by rw [sizeLine_eq]; omega
  cases o with
  | false => exact b_sjoin ra rb (sjoin_upN wd hw k hk) (sjoin_up wd hw k hk)
  | true =>
    refine b_bjoin ra rb ?_ (sl (Nat.le_trans (bjoin_up1 wd hw k hk) (by omega))) (sl (Nat.le_trans (bjoin_up2 wd hw k hk) (by omega))) (bjoin_up wd hw k hk)
    simp [parts]
theorem b_split {o : Bool} {wd : List Nat} {a b : Value} (hw : wd ∈ W15) (ra : TxR o (pth wd) X h a) (rb : TxR o [47] X h b) : Ev prog w A X h (call (.builtin (if o then "bytes.split" else "str.split")) [a, b]) (LsR (TxR o) (parts wd)) := by
  cases o with
  | false => exact b_ssplit hw ra rb
  | true => exact b_bsplit hw ra rb
theorem recv_tx {o : Bool} {l : List Nat} {v : Value} (r : TxR o l X h v) : Recv (if o then "bytes" else "str") h v := by
  cases o with
  | false => exact recv_str r
  | true => exact recv_bytes r
theorem pa_tx (o : Bool) : PlainAttrs (if o then "bytes" else "str") := by
  cases o with
  | false => exact PySem.F.plainAttrs_str
  | true => exact FB.plainAttrs_bytes
theorem slot_split (o : Bool) : Slot (if o then "bytes" else "str") (Str.ofString "split") (if o then "bytes.split" else "str.split") := by
  cases o with
  | false => exact PySem.F.slot_str_split
  | true => exact slot_bytes_split
theorem type_split (o : Bool) : typeOf (.builtin (if o then "bytes.split" else "str.split")) = pure (.type "method_descriptor") := by
  cases o with
  | false => exact PySem.F.type_str_split
  | true => exact type_bytes_split
theorem slot_join (o : Bool) : Slot (if o then "bytes" else "str") (Str.ofString "join") (if o then "bytes.join" else "str.join") := by
  cases o with
  | false => exact PySem.F.slot_str_join
  | true => exact slot_bytes_join
theorem type_join (o : Bool) : typeOf (.builtin (if o then "bytes.join" else "str.join")) = pure (.type "method_descriptor") := by
  cases o with
  | false => exact PySem.F.type_str_join
  | true => exact type_bytes_join

theorem take_above {ws : List (List Nat)} {i : Nat} {wd : List Nat} (e : ws[i]? = some wd) : aboveL (ws.take (i + 1)) = aboveL (ws.take i) ++ (ups wd).map pth := by
  unfold aboveL
  rw [List.take_add_one, e]; simp
theorem len_above (ws : List (List Nat)) (hW : ∀ w ∈ ws, w ∈ W15) : (aboveL ws).length ≤ 4 * ws.length := by
  induction ws with
  | nil => simp [aboveL]
  | cons w ws ih =>
    have := ih fun x hx => hW x (.tail _ hx)
    have := w15_len w (hW w (.head _))
    simp only [aboveL, List.flatMap_cons, List.length_append, List.length_cons, List.length_map, ups, List.length_range] at *
    omega
theorem c_above {k : Nat} {o : Bool} {ws es : List (List Nat)} {v : Value} (hA : Ok (k + 2) A) (B : Bs fa h) (hW : ∀ w ∈ ws, w ∈ W15) (hlen : ws.length ≤ 1000) (hp : es.Perm (dedupL (aboveL ws))) (hs : es.Pairwise (· < ·)) (h64 : es.length < 64)
    (rv : LsR (TxR o) (ws.map pth) X h v) : Ev prog w A X h (call (.ref (fa 10)) [v]) (LsR (TxR o) es) := by
  refine call_fn (k := k + 1) hA B.lim (B.fn 10 (by decide)) (binds := [(Str.ofString "paths", v)]) (fun _ _ _ _ _ _ _ => rfl) ?_ ?_ rfl rfl rfl
  · intro L x hx; rw [List.mem_singleton.mp hx]; exact .inl rfl
  intro Y s q cd L h₁ tk le al kp₀ F hA'
  have g := gr_tx o
  have sl : ∀ {n : Nat}, n ≤ 1000000 → n ≤ sizeLine := fun h => by rw [sizeLine_eq]; omega
  have rv1 : LsR (TxR o) (ws.map pth) Y h₁ v := (gr_ls g _).up (le.step kp₀).lw rv
  refine wpAny_execs_cons (as_new (s := { s with heap := h₁, toks := tk }) (R := TxR o) F (al.up kp₀) (nw_nil g) g (fun v => .loc rfl) rfl rfl ?_)
  rintro a vs h₂ t₂ na aL aC F₂ sx₂ lw₂ al₂ hl₂ hx₂
  cases hx₂
  have rv2 : LsR (TxR o) (ws.map pth) (a :: Y) h₂ v := (gr_ls g _).up lw₂ rv1
  have na0 : s.heap.get? a = none := kp₀.none na
  refine wpAny_execs_cons (st_for (s := { s with heap := h₂, toks := t₂ }) (Ms := [a]) (R := TxR o) (ds := ws.map pth)
    (fun I i h m cm => ∃ vs, m (Str.ofString "found") = some (.ref a) ∧ h.PlainList a vs.toArray ∧ All2 (fun u d => TxR o d (I :: a :: Y) h u) vs (aboveL (ws.take i)))
    (fun v m => upd m (Str.ofString "path") v) (fun v cm => cm) F₂ al₂ Al.nil (by simp) (ev_name (.loc rfl F₂.ns rfl) (gr_ls g _) rv2 rfl (by decide)) (fun Z h' v' le' r => ev_iter_list hA'.handled g r) g (fun _ _ _ => .loc rfl) rfl ?_ ?_ ?_ ?_ (fun _ => rfl))
  · rintro I i h h' m cm nI ⟨vs, hm, hl, hx⟩ kb lw
    have haI : a ≠ I := by rintro rfl; obtain ⟨n, e⟩ := hl₂; rw [nI] at e; cases e
    exact ⟨vs, hm, hl.at fun o e => kb a o haI aL aC e, hx.imp fun u d _ _ r => (g d).up (lw _ (List.mem_cons_self)) r⟩
  · intro I h' nI kp
    exact ⟨[], rfl, hl₂.at fun o e => kp a o e, by simpa [aboveL] using All2.nil⟩
  · rintro I i d u h tk m₁ cm₁ nI hd sx alI ru FF ⟨vs, hm, hl, hx⟩
    rw [List.getElem?_map] at hd
    obtain ⟨wd, hwd, rfl⟩ := Option.map_eq_some_iff.mp hd
    have hw : wd ∈ W15 := hW wd (List.mem_of_getElem? hwd)
    have hl3 := w15_len wd hw
    have Bh : Bs fa h := B.up (le.kp.trans FF.kept)
    have hm' : upd m₁ (Str.ofString "path") u (Str.ofString "found") = some (.ref a) := hm
    refine wpAny_execs_cons (as_name (s := { s with heap := h, toks := tk }) (R := TxR o [47]) FF alI
      (ev_callD 1 Bh (by decide) (by decide) (ev_args_cons (ev_name (.loc rfl FF.ns rfl) (g _) ru rfl (by decide)) (g _) ev_args_nil rfl) (fun Z h' vs l B' r => by
        obtain ⟨v, us, rfl, r, rfl⟩ := r
        exact c_sep hA' B' r) rfl rfl rfl (by decide) rfl) (g _) (fun v => .cel rfl rfl) rfl rfl ?_)
    intro u₁ h₃ t₃ F₃ sx₃ al₃ r₃
    have ru3 : TxR o (pth wd) (I :: a :: Y) h₃ u := ru
    have c₃ : h₃.IsCell (L + 1) (some u₁) := F₃.cl.cell (Str.ofString "sign") (L + 1) rfl
    refine wpAny_execs_cons (as_name (s := { s with heap := h₃, toks := t₃ }) (R := LsR (TxR o) (parts wd)) F₃ al₃
      (ev_meth1 (T := if o then "bytes" else "str") (ev_name (.loc rfl F₃.ns rfl) (g _) ru3 rfl (by decide)) (g _) (ev_name (.cell rfl rfl c₃) (g _) r₃ rfl (by decide)) (fun Z h' v r => recv_tx r) (pa_tx o) (slot_split o) (type_split o)
        (fun Z h' a b l ra rb => b_split hw ra rb) rfl rfl rfl) (gr_ls g _) (fun v => .cel rfl rfl) rfl rfl ?_)
    intro u₂ h₄ t₄ F₄ sx₄ al₄ r₄
    have c₄ : h₄.IsCell (L + 1) (some u₁) := F₄.cl.cell (Str.ofString "sign") (L + 1) rfl
    have d₄ : h₄.IsCell (L + 2) (some u₂) := F₄.cl.cell (Str.ofString "names") (L + 2) rfl
    have sx34 : Sx [] [a] (fenv 10 q cd L (fa 10)) h h₄ := (sx₃.trans sx₄).nil
    have lw34 : Lw (I :: a :: Y) h (I :: a :: Y) h₄ := sx34.up (by simp)
    have haI : a ≠ I := by rintro rfl; obtain ⟨n, e⟩ := hl₂; rw [nI] at e; cases e
    have hl₄ : h₄.PlainList a vs.toArray := hl.at fun o e => (sx₃.trans sx₄).ef0 (by simp) aL aC e
    have r₃' : TxR o [47] (I :: a :: Y) h₄ u₁ := r₃
    have hx₄ : All2 (fun u d => TxR o d (I :: a :: Y) h₄ u) vs (aboveL (ws.take i)) := hx.imp fun u d _ _ r => (g d).up lw34 r
    have hvl : vs.length ≤ 4000 := by
      have := hx.length
      have h2 := len_above (ws.take i) fun w hw => hW w (List.mem_of_mem_take hw)
      rw [List.length_take] at h2
      omega
    refine wpAny_execs_cons (st_extend (s := { s with heap := h₄, toks := t₄ }) (X := I :: a :: Y) (R := TxR o) (ds := (ups wd).map pth) F₄ al₄ (by simp) na0 hl₄ (.loc rfl F₄.ns hm')
      (ev_compO (R := fun j : Nat => IntR j) (S := TxR o) (ds := List.range (wd.length + 1)) (fun _ => true) (fun j => pth (wd.take j)) (by rw [List.filter_eq_self.mpr (by simp), ups, List.map_map]; rfl)
        (ev_callT ((B.up (le.kp.trans F₄.kept)).b (v := .type "range") (by decide) rfl rfl rfl) (ev_args_cons (R := IntR (wd.length + 1 : Nat)) (ev_callB ((B.up (le.kp.trans F₄.kept)).b (v := .builtin "len") (by decide) rfl rfl rfl) (ev_args_cons (ev_name (.cell rfl rfl d₄) (gr_ls g _) r₄ rfl (by decide)) (gr_ls g _) ev_args_nil rfl) (fun Z h' vs l r => by
            obtain ⟨v, us, rfl, r, rfl⟩ := r
            have := b_len (prog := prog) (w := w) (A := A.deeper (fenv 10 q cd L (fa 10))) g r (sl (by rw [parts_len]; omega))
            rw [parts_len] at this; exact this) rfl (by decide) rfl rfl) (gr_int _) ev_args_nil rfl) (fun Z h' vs l r => by
            obtain ⟨v, us, rfl, r, rfl⟩ := r
            exact b_range r) rfl (by decide) rfl rfl)
        (fun Z h' v' le' r => ev_iter_range hA'.handled (by omega) r) (fun j => gr_int j) g (sl (by simp; omega)) rfl (.loc rfl)
        (fun d hd Z h' v C le' al' r S => ev_tests_nil)
        (fun j hj _ Z h' v C le' al' r S => ev_meth1 (T := if o then "bytes" else "str") (ev_name (.cell rfl rfl (c₄.keeps le'.kp)) (g _) r₃' rfl (by decide)) (g _)
          (ev_upto_list (k := j + 1) (ev_name (.cell rfl rfl (d₄.keeps le'.kp)) (gr_ls g _) ((gr_ls g _).up le'.lw r₄) rfl (by decide)) g (ev_BinOp (ev_name S (gr_int _) r rfl (by decide)) (gr_int _) ev_int (fun Z' h'' a b l ra rb => op_add ra rb)) (sl (by rw [parts_len]; omega)) (fun _ _ => rfl))
          (fun Z h' v r => recv_tx r) (pa_tx o) (slot_join o) (type_join o) (fun Z h' a b l ra rb => b_join hw hj ra rb) rfl rfl rfl)
        rfl (by decide) (fun _ => rfl)) g (sl (by simp [ups]; omega)) ?_ rfl (by decide) rfl rfl rfl rfl rfl)
    intro us h₅ t₅ F₅ sx₅ al₅ hl₅ hx₅
    have lw5 : Lw (I :: a :: Y) h₄ (I :: a :: Y) h₅ := sx₅.up (by simp)
    refine wpAny_execs_nil ⟨rfl, h₅, t₅, _, _, rfl, F₅, sx34.trans sx₅, vs ++ us, hm', hl₅, ?_⟩
    rw [take_above hwd]
    exact (hx₄.imp fun u d _ _ r => (g d).up lw5 r).append hx₅
  · rintro I h₃ t₃ m₁ cm₁ nI F₃ sx ⟨vs, hm, hl, hx⟩
    rw [List.length_map, List.take_length] at hx
    have B3 : Bs fa h₃ := B.up (le.kp.trans F₃.kept)
    have rf : LsR (TxR o) (aboveL ws) Y h₃ (.ref a) := ⟨a, vs, rfl, al.not na0, hl, hx.imp fun u d _ _ r => (g d).up (Lw.sub fun b hb => by simp [hb]) r⟩
    have hd : (aboveL ws).length ≤ 4000 := by have := len_above ws hW; omega
    have hdd : (dedupL (aboveL ws)).length ≤ 4000 := by have := dedupL_len (aboveL ws); omega
    refine wpAny_execs_cons (wpAny_Return_some (Ev.here (s := { s with heap := h₃, toks := t₃ }) (X := Y) (R := LsR (TxR o) es) ?_ (al.up F₃.kept) fun v h₄ t₄ k₄ r => ⟨v, h₄, t₄, rfl, rfl, F₃.kept.trans k₄, r⟩))
    obtain ⟨ob, nm, q', doc, pm, an, cd', ct, kd, mk, u, e1, e2, e3, e4, e5⟩ := B3.d3
    refine ev_callB (B3.b (v := .builtin "sorted") (by decide) rfl rfl rfl) (ev_args_one (R := DcR prog w o (dedupL (aboveL ws))) (ev_callF (x := fname 3) (B3.f 3 (by decide) rfl rfl) e1 e2 (ev_args_cons (ev_name (.loc rfl F₃.ns hm) (gr_ls g _) rf rfl (by decide)) (gr_ls g _) ev_args_nil rfl)
      (fun Z h' vs l r => by
        obtain ⟨v, us, rfl, r, rfl⟩ := r
        exact c_dedupD hA' (B3.up l.kp) r (by omega)) rfl (by decide) rfl) rfl) (fun Z h' vs l r => ?_) rfl (by decide) rfl rfl
    obtain ⟨v, us, rfl, r, rfl⟩ := r
    refine b_sorted_of (ltr_tx o) (by cases o <;> decide) g (fun Y' s' al' le' => ?_) hp hs (by rw [← hp.length_eq]; exact h64) (hA'.cline _ (by omega))
    obtain ⟨d, kvs, rfl, lo, hdd', hk⟩ := r
    refine ev_collect_dict (A := (A.deeper (fenv 10 q cd L (fa 10))).in1) (X := Y') (h := s'.heap) (o := o) (ds := dedupL (aboveL ws)) hA'.handled (by omega) ⟨d, kvs, rfl, lo, hdd'.at fun o e => le'.kp _ o e, hk⟩ rfl fun vs h' tk kp hx => ⟨h', tk, rfl, kp, hx.imp fun u d _ _ r => r⟩
end
end Mine
end

section
namespace Mine
open PySem PySem.W PyProof.Rows PySem.Calls PySem.SeqAt
set_option maxRecDepth 100000

/-! an IndexError on its way -/
theorem Kf.trans {Fs : List Addr} {h h' h'' : Heap} (a : Kf Fs h h') (b : Kf Fs h' h'') : Kf Fs h h'' := fun x o e => by
  rcases a x o e with q | ⟨hf, sl, q⟩
  · exact b x o q
  · rcases b x _ q with q' | ⟨_, sl', q'⟩
    · exact .inr ⟨hf, sl, q'⟩
    · exact .inr ⟨hf, sl', q'⟩
structure Ex (FL : List Addr) (c t : Bool) (b : Heap) (e : Addr) (h : Heap) : Prop where
  keep : Kf FL b h
  new : b.get? e = none
  obj : ∃ oe vs, h.get? e = some oe ∧ oe.cls = .type "IndexError" ∧ oe.data = .fields vs ∧ 4 ≤ vs.size ∧ (c = true → vs[2]? = some .none) ∧
    ((t = false ∧ vs[1]? = some .none) ∨ ∃ T oT ts, vs[1]? = some (.ref T) ∧ T ≠ e ∧ b.get? T = none ∧ h.get? T = some oT ∧ oT.data = .fields ts ∧ 3 < ts.size)
theorem Ex.of_new {FL : List Addr} {b h : Heap} {e : Addr} (x : Heap.NewExc b h e "IndexError") : Ex FL true false b e h := by
  obtain ⟨ob, tp, he, hc, hd⟩ := x.there
  exact ⟨Kp.kf x.keeps, x.new, ob, _, he, hc, hd, by simp, fun _ => rfl, .inl ⟨rfl, rfl⟩⟩

section
variable {M : Model} {A : Around} {E : Value → Shared → Prop} {s : Shared} {env : Env} {outer : List Env} {L e : Addr} {FL : List Addr} {c t : Bool} {b : Heap}
theorem ex_entry {oe : Obj} {vs : Array Value} {head : Value} {hadNext : Bool} {Q : Unit → Shared → Prop} (hfr : A.frames = some (env :: outer)) (hff : s.heap.FunFrames default (env :: outer)) (hf : env.frame = some L)
    (hFL : ∀ a ∈ (env :: outer).filterMap (·.frame), a ∈ FL) (kp : Kf FL b s.heap) (hn : b.get? e = none) (he : s.heap.get? e = some oe) (hc : oe.cls = .type "IndexError") (hd : oe.data = .fields vs) (hsz : 4 ≤ vs.size) (h2 : c = true → vs[2]? = some .none)
    (k : ∀ h', Ex FL c true b e h' → h'.FunFrames default (env :: outer) → Q () { s with heap := h' }) :
    wpAny M A (do let a ← frameOf env; let pl ← entryPlaceOf L hadNext; let b ← EntryCells.newEntry head a .none (rawInt L) .none pl; setField (.ref e) 1 b) Q E s := by
  have hene : e ∉ (env :: outer).filterMap (·.frame) := fun hm => by
    obtain ⟨_, o, ho, hnf⟩ := hff.mem hm
    rw [he] at ho; injection ho with ho; subst ho; exact hnf vs hd
  refine wpAny_bind (wpAny_frameOf_fun hfr hff hf fun h₁ hs₁ => ?_)
  refine wpAny_bind (wpAny_entryPlaceOf fun pl hpl => ?_)
  unfold EntryCells.newEntry newFields
  refine wpAny_bind (wpAny_newObj_type ?_ (hpl.sizeOk5 _ _ _ _ _))
  have he₁ : h₁.get? e = some oe := (hs₁.2.1 e hene).trans he
  have he₂ := Heap.get?_push_of_some (h := h₁) { cls := .type "traceback", dict := none, data := .fields ([head, .ref L, .none, rawInt L, .none] ++ (if pl.isEmpty then List.replicate 6 Value.none else pl)).toArray } he₁
  refine wpAny_setField he₂ hd (by omega) ?_
  have hTe : h₁.objs.size ≠ e := Nat.ne_of_gt (Heap.lt_size he₁)
  have hd₃ := Obj.data_mapFields hd (·.setIfInBounds 1 (Value.ref h₁.objs.size))
  have he₃ := Heap.get?_update_self (Obj.mapFields (·.setIfInBounds 1 (Value.ref h₁.objs.size))) he₂ (Obj.isFreed_of_fields hd₃)
  have hT₃ := (Heap.get?_update_other (h₁.push { cls := .type "traceback", dict := none, data := .fields ([head, .ref L, .none, rawInt L, .none] ++ (if pl.isEmpty then List.replicate 6 Value.none else pl)).toArray })
    (Obj.mapFields (·.setIfInBounds 1 (Value.ref h₁.objs.size))) (Ne.symm hTe)).trans (Heap.get?_push_size h₁ rfl)
  have keep : ∀ b o, b ≠ e → h₁.get? b = some o → ((h₁.push { cls := .type "traceback", dict := none, data := .fields ([head, .ref L, .none, rawInt L, .none] ++ (if pl.isEmpty then List.replicate 6 Value.none else pl)).toArray }).update e (Obj.mapFields (·.setIfInBounds 1 (Value.ref h₁.objs.size)))).get? b = some o := fun b o hbe hb => by
    rw [Heap.get?_update_other _ _ (Ne.symm hbe)]
    exact Heap.get?_push_of_some _ hb
  have kp1 : Kf FL s.heap h₁ := fun x o ex => by
    by_cases hx : x ∈ (env :: outer).filterMap (·.frame)
    · obtain ⟨sl, q⟩ := hs₁.2.2 x o ex; exact .inr ⟨hFL x hx, sl, q⟩
    · exact .inl ((hs₁.2.1 x hx).trans ex)
  have kb1 : Kf FL b h₁ := kp.trans kp1
  have hsz1 : 1 < vs.size := by omega
  refine k _ ⟨kb1.step fun x o ⟨o₀, e₀⟩ ex => keep x o (by rintro rfl; rw [hn] at e₀; cases e₀) ex, hn, _, _, he₃, (Obj.cls_mapFields _ _).trans hc, hd₃, by simpa using hsz, fun q => by simpa using h2 q,
    .inr ⟨h₁.objs.size, _, _, by simp [hsz1], hTe, kb1.off (get_size _), hT₃, rfl, by simp only [List.size_toArray, List.length_append, List.length_cons, List.length_nil]; omega⟩⟩ ?_
  refine hff.of_keeps fun x o hx hnf => ?_
  obtain ⟨sl, q⟩ := hs₁.2.2 x o hx
  exact ⟨_, keep x _ (by rintro rfl; rw [he] at hx; injection hx with hx; subst hx; exact hnf vs hd) q, rfl⟩
theorem ex_note {Q : Unit → Shared → Prop} (hfr : A.frames = some (env :: outer)) (hff : s.heap.FunFrames default (env :: outer)) (hf : env.frame = some L) (hFL : ∀ a ∈ (env :: outer).filterMap (·.frame), a ∈ FL) (x : Ex FL c t b e s.heap)
    (k : ∀ h', Ex FL c true b e h' → h'.FunFrames default (env :: outer) → Q () { s with heap := h' }) : wpAny M A (noteFrame (.ref e) env) Q E s := by
  obtain ⟨kp, hn, oe, vs, he, hc, hd, hsz, h2, hor⟩ := x
  unfold noteFrame
  simp only [hf]
  rcases hor with ⟨_, h1⟩ | ⟨T, oT, ts, h1, hTe, hTn, hT, hdT, hts⟩
  · refine wpAny_bind (wpAny_field he hd h1 ?_)
    rw [if_neg (by decide)]
    exact ex_entry hfr hff hf hFL kp hn he hc hd hsz h2 k
  · refine wpAny_bind (wpAny_field he hd h1 ?_)
    rw [if_pos (show (Value.ref T != Value.none) = true from by simp)]
    obtain ⟨y, hy⟩ : ∃ y, ts[3]? = some y := ⟨ts[3], by simp [hts]⟩
    refine wpAny_bind (wpAny_field hT hdT hy ?_)
    by_cases hyL : (y == rawInt L) = true
    · rw [if_pos hyL]
      exact wpAny_pure (k s.heap ⟨kp, hn, oe, vs, he, hc, hd, hsz, h2, .inr ⟨T, oT, ts, h1, hTe, hTn, hT, hdT, hts⟩⟩ hff)
    · rw [if_neg hyL]
      refine wpAny_bind (wpAny_setField hT hdT hts ?_)
      have other : ∀ b, b ≠ T → (s.heap.update T (Obj.mapFields (·.setIfInBounds 3 Value.none))).get? b = s.heap.get? b := fun b hb => Heap.get?_update_other _ _ (Ne.symm hb)
      refine ex_entry (s := { s with heap := s.heap.update T (Obj.mapFields (·.setIfInBounds 3 Value.none)) }) hfr (hff.of_keeps fun x o hx hnf => ⟨o, (other x ?_).trans hx, rfl⟩) hf hFL (kp.step fun x o ⟨o₀, e₀⟩ ex => (other x ?_).trans ex) hn ((other e (Ne.symm hTe)).trans he) hc hd hsz h2 k
      · rintro rfl; rw [hT] at hx; injection hx with hx; subst hx; exact hnf ts hdT
      · rintro rfl; rw [hTn] at e₀; cases e₀
theorem ex_flight {Q : Unit → Shared → Prop} {fr : Option Addr} (hff : s.heap.FunFrames default (env :: outer)) (x : Ex FL c true b e s.heap)
    (k : ∀ h', Ex FL c true b e h' → h'.FunFrames default (env :: outer) → Q () { s with heap := h' }) : wpAny M A (setFlight (.ref e) fr) Q E s := by
  obtain ⟨kp, hn, oe, vs, he, hc, hd, hsz, h2, hor⟩ := x
  rcases hor with ⟨q, _⟩ | ⟨T, oT, ts, h1, hTe, hTn, hT, hdT, hts⟩
  · cases q
  unfold setFlight
  refine wpAny_bind (wpAny_field he hd h1 ?_)
  rw [if_pos (show (Value.ref T != Value.none) = true from by simp)]
  refine wpAny_setField hT hdT hts ?_
  have other : ∀ b, b ≠ T → ∀ v, (s.heap.update T (Obj.mapFields (·.setIfInBounds 3 v))).get? b = s.heap.get? b := fun b hb v => Heap.get?_update_other _ _ (Ne.symm hb)
  have hd3 := Obj.data_mapFields hdT (·.setIfInBounds 3 (fr.elim Value.none fun f => rawInt f))
  refine k _ ⟨kp.step fun x o ⟨o₀, e₀⟩ ex => (other x ?_ _).trans ex, hn, oe, vs, (other e (Ne.symm hTe) _).trans he, hc, hd, hsz, h2, .inr ⟨T, _, _, h1, hTe, hTn, Heap.get?_update_self _ hT (Obj.isFreed_of_fields hd3), hd3, by simpa using hts⟩⟩ (hff.of_keeps fun x o hx hnf => ⟨o, (other x ?_ _).trans hx, rfl⟩)
  · rintro rfl; rw [hTn] at e₀; cases e₀
  · rintro rfl; rw [hT] at hx; injection hx with hx; subst hx; exact hnf ts hdT
theorem ex_back {Q' : Value → Shared → Prop} (hff : s.heap.FunFrames default (env :: outer)) (x : Ex FL c true b e s.heap)
    (k : ∀ h', Ex FL c true b e h' → h'.FunFrames default (env :: outer) → Q' (.ref e) { s with heap := h' }) : cameBackBy M A env Q' (.ref e) s := by
  have x' := x
  obtain ⟨kp, hn, oe, vs, he, hc, hd, hsz, h2, hor⟩ := x'
  rcases hor with ⟨q, _⟩ | ⟨T, oT, ts, h1, hTe, hTn, hT, hdT, hts⟩
  · cases q
  unfold cameBackBy
  refine wpAny_bind (wpAny_field he hd h1 ?_)
  rw [if_neg (show ¬ ((Value.ref T == Value.none) = true) from by simp)]
  exact ex_flight hff x k
end
end Mine
end

section
namespace Mine
open PySem PySem.W PyProof.Rows PySem.Calls PySem.SeqAt
set_option maxRecDepth 100000

theorem entry_unchain : entryFor table "proto.unchain" = some Builtin.«proto.unchain» := entryFor_of_tree (by kernel_rfl)
section
variable {prog : Program} {w : World} {A : Around} {E : Value → Shared → Prop} {s : Shared} {e e₀ l : Addr} {FL : List Addr}
theorem raise_over {α : Type} {oe o₀ : Obj} {vs v₀ : Array Value} {Q : α → Shared → Prop} (hh : A.handled = some (.ref e₀)) (hne : e₀ ≠ e) (h₀ : s.heap.get? e₀ = some o₀) (hd₀ : o₀.data = .fields v₀) (hc₀ : v₀[2]? = some .none) (he : s.heap.get? e = some oe) (hd : oe.data = .fields vs) (hsz : 2 < vs.size)
    (h : E (.ref e) { s with heap := s.heap.update e (Obj.mapFields (·.setIfInBounds 2 (.ref e₀))) }) : wpAny (model prog w) A (raiseNew (.ref e) : Sem α) Q E s := by
  unfold raiseNew
  refine wpAny_bind (wpAny_handled ?_)
  rw [hh]
  have hb : (Value.ref e₀ != Value.ref e) = true := by simp [hne]
  simp only [hb, if_true]
  refine wpAny_bind (wpAny_holding (wpAny_runValue (codeAny_builtin entry_unchain ?_)))
  unfold Builtin.«proto.unchain»
  refine wpAny_bind (wpAny_field h₀ hd₀ hc₀ ?_)
  rw [if_pos (by decide)]
  refine wpAny_pure ?_
  refine wpAny_bind ?_
  unfold updateField
  refine wpAny_bind (wpAny_load he ?_)
  rw [hd]
  simp only
  rw [if_pos hsz]
  exact wpAny_update he (wpAny_throw h)
theorem words_over {α : Type} {msg : String} {Q : α → Shared → Prop} {o₀ : Obj} {v₀ : Array Value} (hh : A.handled = some (.ref e₀)) (h₀ : s.heap.get? e₀ = some o₀) (hd₀ : o₀.data = .fields v₀) (hc₀ : v₀[2]? = some .none)
    (hE : ∀ h' tk e, Ex FL false false s.heap e h' → E (.ref e) { s with heap := h', toks := tk }) : wpAny (model prog w) A (raiseErrorWords "IndexError" msg : Sem α) Q E s := by
  have hp := plainExc_IndexError
  unfold raiseErrorWords
  refine wpAny_bind (wpAny_mkText (wpAny_bind ?_))
  unfold newExc newTuple
  refine wpAny_bind (wpAny_newObj_type ?_)
  refine wpAny_bind (m := firstArgMember _ _) (wpAny_of_eq (a := Value.none) (by simp only [firstArgMember, hp.first]; rfl) ?_)
  rw [hp.own]
  refine wpAny_newObj_type ?_
  have lt0 : e₀ < s.heap.objs.size := Heap.lt_size h₀
  refine raise_over (oe := { cls := .type "IndexError", data := .fields (#[.ref s.heap.objs.size, .none, .none, .none, .bool false, .none] ++ #[]) }) hh ?_ (Heap.get?_push_of_some _ (Heap.get?_push_of_some _ h₀)) hd₀ hc₀ (Heap.get?_push_size _ rfl) rfl (by simp) ?_
  · rw [Heap.size_push]; exact Nat.ne_of_lt (Nat.lt_succ_of_lt lt0)
  · refine hE _ _ _ ⟨Kp.kf fun b o eb => ?_, Heap.get?_none_of_le (by rw [Heap.size_push]; exact Nat.le_succ _), _, _, Heap.get?_update_self _ (Heap.get?_push_size _ rfl) rfl, rfl, rfl, by simp, fun q => (by cases q), .inl ⟨rfl, rfl⟩⟩
    have ltb := Heap.lt_size eb
    rw [Heap.get?_update_other _ _ (by rw [Heap.size_push]; exact Nat.ne_of_gt (Nat.lt_succ_of_lt ltb))]
    exact Heap.get?_push_of_some _ (Heap.get?_push_of_some _ eb)
theorem getItem_over {items : Array Value} {k : Int} {t : Tok} {Q : Value → Shared → Prop} {o₀ : Obj} {v₀ : Array Value} (hh : A.handled = some (.ref e₀)) (h₀ : s.heap.get? e₀ = some o₀) (hd₀ : o₀.data = .fields v₀) (hc₀ : v₀[2]? = some .none) (hl : s.heap.IsList l items) (hout : (items.size : Int) ≤ k) (hlo : -(2 ^ 63) ≤ k) (hhi : k < 2 ^ 63)
    (hE : ∀ h' tk e, Ex FL false false s.heap e h' → E (.ref e) { s with heap := h', toks := tk }) : wpAny (model prog w) A (getItem (.ref l) (.int k t)) Q E s := by
  obtain ⟨o, ho, hc, ne, hd⟩ := id hl
  have hin : A.in1.handled = some (.ref e₀) := hh
  unfold getItem
  try with_reducible refine wpAny_holding ?_
  first | refine wpAny_bind (wpAny_pure ?_) | skip
  refine wpAny_bind (wpAny_sequenceKey hl.typeIs (by decide) ?_)
  refine wpAny_bind (wpAny_callSpecial?_slot (name := Str.ofString "__getitem__") hl.typeIs slot_list_getitem
    (wpAny_call_entry slot_list_getitem hl.typeIs entry_list_getitem ?_ (args_list_getitem _ _)))
  show wpAny _ _ (Builtin.List.listSubscript? (.int k t) >>= _) _ _ s
  refine wpAny_bind (wpAny_listSubscript_int (fitsIndex_both hlo hhi) ?_)
  clear hlo hhi
  cases k with
  | ofNat j =>
    have hx : items[j]? = none := Array.getElem?_eq_none (by have : (items.size : Int) ≤ (j : Int) := hout; omega)
    show wpAny _ _ ((seqItemAt l j >>= fun r => pure (r.map (j, ·))) >>= _) _ _ s
    refine wpAny_bind (wpAny_bind (wpAny_seqItemAt ho hd (wpAny_pure ?_)))
    rw [hx]
    first
      | exact wpAny_bind (wpAny_rule (words_over hin h₀ hd₀ hc₀ hE))
      | exact wpAny_bind (wpAny_rule (wpAny_bind (words_over hin h₀ hd₀ hc₀ hE)))
      | exact wpAny_bind (wpAny_bind (wpAny_rule (words_over hin h₀ hd₀ hc₀ hE)))
      | exact wpAny_rule (words_over hin h₀ hd₀ hc₀ hE)
  | negSucc j => exact absurd hout (by have := Int.negSucc_lt_zero j; omega)
theorem item_over {value slice : Expr} {items : Array Value} {k : Nat} {u : Tok} {Q : Value → Shared → Prop} {o₀ : Obj} {v₀ : Array Value} (hh : A.handled = some (.ref e₀)) (h₀ : s.heap.get? e₀ = some o₀) (hd₀ : o₀.data = .fields v₀) (hc₀ : v₀[2]? = some .none) (hl : s.heap.IsList l items) (hout : items.size ≤ k) (hhi : k < 2 ^ 60)
    (hE : ∀ h' tk e, Ex FL false false s.heap e h' → E (.ref e) { s with heap := h', toks := tk }) (hs : subscripted slice false (.ref l) (.int k u) = operate [.ref l, .int k u] (getItem (.ref l) (.int k u))) :
    wpAny (model prog w) A (subscriptTail value slice (.ref l) (.int k u)) Q E s :=
  tail_any hl.typeIs slot_list_getitem.lookup (getItem_over hh h₀ hd₀ hc₀ hl (by omega) (by omega) (by omega) hE) hs
theorem item_out {value slice : Expr} {items : Array Value} {k : Nat} {u : Tok} {Q : Value → Shared → Prop} (hh : A.handled = none) (hl : s.heap.IsList l items) (hout : items.size ≤ k) (hhi : k < 2 ^ 60)
    (hE : ∀ h' tk e, Ex FL true false s.heap e h' → E (.ref e) { s with heap := h', toks := tk }) (hs : subscripted slice false (.ref l) (.int k u) = operate [.ref l, .int k u] (getItem (.ref l) (.int k u))) :
    wpAny (model prog w) A (subscriptTail value slice (.ref l) (.int k u)) Q E s :=
  tail_any hl.typeIs slot_list_getitem.lookup (wpAny_getItem_list_out hh hl (.inr (by omega)) (by omega) (by omega) fun h' tk e x => hE h' tk e (Ex.of_new x)) hs
end

section
variable {prog : Program} {w : World} {M : Model} {A : Around} {Fs X : List Addr} {h₀ : Heap} {env : Env} {E : Value → Shared → Prop} {s : Shared} {m cm m' cm' : Str → Option Value} {x : Str} {pos : Pos}
/-- x += c, an int -/
theorem st_aug {px cp : Pos} {i c : Int} {kc : Nat} {t₀ : Tok} {Q : Flow → Shared → Prop} (F : FS Fs h₀ env s.heap m cm) (al : Al X s.heap) (hl : env.kindOf x = some .local) (hm : m x = some (.int i t₀)) (hk : env.scope.kind = .function)
    (k : ∀ t h' tk, FS Fs h₀ env h' (upd m x (.int (i + c) t)) cm → Sx [] [] env s.heap h' → Al X h' → Q .next { s with heap := h', toks := tk }) :
    wpAny (model prog w) A (exec (.AugAssign (.Name x px) .Add (.Constant (.int c) kc cp) pos) env) Q E s :=
  wpAny_AugAssign_Name (wpAny_loadName_local hk hl F.ns hm (wpAny_Constant_int (wpAny_iadd_int (st_name (s := { s with toks := _ }) F (.loc hl) hk fun h' tk F' sx => k _ h' tk F' (sx []) ((sx X).al al)))))
end
end Mine
end

section
namespace Mine
open PySem PySem.W PyProof.Rows PySem.Calls PySem.SeqAt
set_option maxRecDepth 100000

/-! frames, when only slots turn -/
theorem kf_sx {Fs Ms : List Addr} {env : Env} {h h' : Heap} (k : Kf (env.locals :: Fs) h h') (nf : ∀ b ∈ env.locals :: Fs, ∀ o, h.get? b = some o → ¬ Fz o) : Sx Fs Ms env h h' := by
  refine ⟨fun b o _ f e => ?_, fun b o e => k.live e, fun b o _ h2 _ e => ?_⟩
  · rcases k b o e with q | ⟨hb, _⟩
    · exact q
    · exact absurd f (nf b hb o e)
  · rcases k b o e with q | ⟨hb, q⟩
    · exact .inl q
    · rcases List.mem_cons.mp hb with rfl | hb
      · exact absurd rfl h2
      · exact .inr ⟨hb, q⟩
theorem FS.kf {Fs : List Addr} {h₀ : Heap} {env : Env} {h h' : Heap} {m cm : Str → Option Value} (F : FS Fs h₀ env h m cm) (k : Kf (env.locals :: Fs) h h') : FS Fs h₀ env h' m cm := by
  refine ⟨?_, fun b o e => ?_, F.above, ⟨fun n c e => ?_, F.cl.apart, F.cl.above⟩⟩
  · obtain ⟨o, es, ep, e, d, r⟩ := F.ns
    rcases k _ _ e with q | ⟨_, sl, q⟩
    · exact ⟨o, es, ep, q, d, r⟩
    · exact ⟨_, es, ep, q, d, r⟩
  · have hL : ∀ {x : Addr}, x = b → x ≠ env.locals := fun q => q ▸ F.notL e
    rcases F.base b o e with q | ⟨hb, sl, q⟩
    · rcases k b o q with q' | ⟨hb, sl, q'⟩
      · exact .inl q'
      · rcases List.mem_cons.mp hb with q2 | hb
        · exact absurd q2 (hL rfl)
        · exact .inr ⟨hb, sl, q'⟩
    · rcases k b _ q with q' | ⟨_, sl', q'⟩
      · exact .inr ⟨hb, sl, q'⟩
      · exact .inr ⟨hb, sl', q'⟩
  · obtain ⟨o, e', d⟩ := F.cl.cell n c e
    rcases k c o e' with q | ⟨_, sl, q⟩
    · exact ⟨o, q, d⟩
    · exact ⟨_, q, d⟩
theorem ff_of {Fs : List Addr} {h₀ : Heap} {env : Env} {h : Heap} {m cm : Str → Option Value} {outer : List Env} (F : FS Fs h₀ env h m cm) (ho : h₀.FunFrames default outer) (hk : env.scope.kind = .function) (hf : env.frame = some env.locals) : h.FunFrames default (env :: outer) := by
  have e0 : ∀ a, (default : Heap).get? a = none := fun a => rfl
  refine Heap.FunFrames.cons (by rw [hk]; decide) hf F.ns (e0 _) (ho.of_keeps fun b o e _ => ?_)
  rcases F.base b o e with q | ⟨_, sl, q⟩
  · exact ⟨o, q, rfl⟩
  · exact ⟨_, q, rfl⟩
theorem nf_of {Fs : List Addr} {h₀ : Heap} {env : Env} {h : Heap} {m cm : Str → Option Value} {outer : List Env} (F : FS Fs h₀ env h m cm) (hFs : ∀ b ∈ Fs, ∃ mf, h₀.Ns b mf) : ∀ b ∈ env.locals :: Fs, ∀ o, h.get? b = some o → ¬ Fz o := by
  intro b hb o e
  have key : ∀ {m : Str → Option Value}, h.Ns b m → ¬ Fz o := fun hn => by
    obtain ⟨o', e', f⟩ := ns_notFz hn
    rw [e] at e'; injection e' with e'; subst e'; exact f
  rcases List.mem_cons.mp hb with rfl | hb
  · exact key F.ns
  · obtain ⟨mf, o', es, ep, e', d, r⟩ := hFs b hb
    rcases F.base b o' e' with q | ⟨_, sl, q⟩
    · exact key ⟨o', es, ep, q, d, r⟩
    · exact key ⟨_, es, ep, q, d, r⟩

section
variable {prog : Program} {w : World} {A : Around} {Fs X : List Addr} {h₀ : Heap} {env : Env} {E : Value → Shared → Prop} {s : Shared} {m cm : Str → Option Value} {pos : Pos}
variable {xs kk yy : Str} {p₁ p₂ p₃ p₄ : Pos} {body : List Stmt} {o : Bool} {ds : List (List Nat)} {k : Nat} {u v : Value} {t : Tok}
abbrev wTest (xs kk yy : Str) (p₁ p₂ p₃ p₄ p₅ : Pos) : Expr := .Compare (.Subscript (.Name xs p₁) (.Name kk p₂) p₃) [.Eq] [.Name yy p₄] p₅
/-- while xs[k] == y: it ends at once -/
theorem w_end {p₅ : Pos} {y : List Nat} {d : List Nat} {Q : Flow → Shared → Prop} (al : Al X s.heap) (hS₁ : See env s.heap xs u) (hS₂ : See env s.heap kk v) (hS₃ : ∃ z, See env s.heap yy z ∧ TxR o y X s.heap z) (r₁ : LsR (TxR o) ds X s.heap u) (r₂ : IntR k X s.heap v) (hd : ds[k]? = some d) (hne : d ≠ y) (hk : k < 2 ^ 60)
    (hf : env.scope.kind = .function) (d₁ : (xs == ("__debug__" : Str)) = false) (d₂ : (kk == ("__debug__" : Str)) = false) (d₃ : (yy == ("__debug__" : Str)) = false)
    (q : ∀ h' tk, Kp s.heap h' → Q .next { s with heap := h', toks := tk }) : wpAny (model prog w) A (exec (.While (wTest xs kk yy p₁ p₂ p₃ p₄ p₅) body [] pos) env) Q E s := by
  obtain ⟨z, hS₃, r₃⟩ := hS₃
  refine wpAny_While (codeAny_whileLoop (fun n s' => s' = s) ?_ 1 rfl)
  rintro n s' rfl
  refine (tr_Cmp (X := X) (h := s'.heap) (c := false) (Rl := TxR o d) (Rr := TxR o y) (ev_Sub (ev_name hS₁ (gr_ls (gr_tx o) ds) r₁ hf d₁) (gr_ls (gr_tx o) ds) (ev_name hS₂ (gr_int _) r₂ hf d₂) fun Y h' a b l ra rb => ev_item_list ra rb (by omega) (by omega) (by simpa using hd) (gr_tx o) (fun _ _ => rfl)) (gr_tx o d) (ev_name hS₃ (gr_tx o y) r₃ hf d₃)
    (fun Y h' a b l ra rb => by have := op_teq (prog := prog) (w := w) (A := A) ra rb; rwa [decide_eq_false hne] at this) rfl).here al fun b h' tk kp rb => ?_
  obtain rfl := rb
  simp only [Bool.false_eq_true, if_false]
  exact wpAny_execs_nil (q h' tk kp)
/-- and where k is behind the last: an IndexError -/
theorem w_out {p₅ : Pos} {outer : List Env} {Q : Flow → Shared → Prop} (hh : A.handled = none) (hfr : A.frames = some (env :: outer)) (hff : s.heap.FunFrames default (env :: outer)) (hfl : env.frame = some env.locals) (hFL : ∀ a ∈ (env :: outer).filterMap (·.frame), a ∈ env.locals :: Fs)
    (hS₁ : See env s.heap xs u) (hS₂ : See env s.heap kk v) (r₁ : LsR (TxR o) ds X s.heap u) (r₂ : IntR k X s.heap v) (hout : ds.length ≤ k) (hk : k < 2 ^ 60)
    (hf : env.scope.kind = .function) (d₁ : (xs == ("__debug__" : Str)) = false) (d₂ : (kk == ("__debug__" : Str)) = false)
    (q : ∀ h' tk e, Ex (env.locals :: Fs) true true s.heap e h' → h'.FunFrames default (env :: outer) → E (.ref e) { s with heap := h', toks := tk }) : wpAny (model prog w) A (exec (.While (wTest xs kk yy p₁ p₂ p₃ p₄ p₅) body [] pos) env) Q E s := by
  refine wpAny_While (codeAny_whileLoop (fun n s' => s' = s) ?_ 1 rfl)
  rintro n s' rfl
  obtain ⟨l, vs, rfl, _, hl, hx⟩ := r₁
  obtain ⟨tt, rfl⟩ := r₂
  have hlen := hx.length
  refine wpAny_isTrue_Compare1 (Subscript_ (see_load hS₁ hf d₁ (see_load hS₂ hf d₂ (item_out (FL := env.locals :: Fs) hh hl.isList (by simp; omega) hk (fun h' tk e x => ?_) rfl)))) rfl
  refine ex_note (s := { s' with heap := h', toks := tk }) hfr (hff.of_keeps fun b o hb _ => ?_) hfl hFL x fun h2 x2 f2 => ex_back (s := { s' with heap := h2, toks := tk }) f2 x2 fun h3 x3 f3 => q h3 tk e x3 f3
  rcases x.keep b o hb with q | ⟨_, sl, q⟩
  · exact ⟨o, q, rfl⟩
  · exact ⟨_, q, rfl⟩
theorem w_over {p₅ : Pos} {outer : List Env} {e₀ : Addr} {o₀ : Obj} {v₀ : Array Value} {Q : Flow → Shared → Prop} (hh : A.handled = some (.ref e₀)) (he₀ : s.heap.get? e₀ = some o₀) (hd₀ : o₀.data = .fields v₀) (hc₀ : v₀[2]? = some .none) (hfr : A.frames = some (env :: outer)) (hff : s.heap.FunFrames default (env :: outer)) (hfl : env.frame = some env.locals) (hFL : ∀ a ∈ (env :: outer).filterMap (·.frame), a ∈ env.locals :: Fs)
    (hS₁ : See env s.heap xs u) (hS₂ : See env s.heap kk v) (r₁ : LsR (TxR o) ds X s.heap u) (r₂ : IntR k X s.heap v) (hout : ds.length ≤ k) (hk : k < 2 ^ 60)
    (hf : env.scope.kind = .function) (d₁ : (xs == ("__debug__" : Str)) = false) (d₂ : (kk == ("__debug__" : Str)) = false)
    (q : ∀ h' tk e, Ex (env.locals :: Fs) false true s.heap e h' → h'.FunFrames default (env :: outer) → E (.ref e) { s with heap := h', toks := tk }) : wpAny (model prog w) A (exec (.While (wTest xs kk yy p₁ p₂ p₃ p₄ p₅) body [] pos) env) Q E s := by
  refine wpAny_While (codeAny_whileLoop (fun n s' => s' = s) ?_ 1 rfl)
  rintro n s' rfl
  obtain ⟨l, vs, rfl, _, hl, hx⟩ := r₁
  obtain ⟨tt, rfl⟩ := r₂
  have hlen := hx.length
  refine wpAny_isTrue_Compare1 (Subscript_ (see_load hS₁ hf d₁ (see_load hS₂ hf d₂ (item_over (FL := env.locals :: Fs) hh he₀ hd₀ hc₀ hl.isList (by simp; omega) hk (fun h' tk e x => ?_) rfl)))) rfl
  refine ex_note (s := { s' with heap := h', toks := tk }) hfr (hff.of_keeps fun b o hb _ => ?_) hfl hFL x fun h2 x2 f2 => ex_back (s := { s' with heap := h2, toks := tk }) f2 x2 fun h3 x3 f3 => q h3 tk e x3 f3
  rcases x.keep b o hb with q | ⟨_, sl, q⟩
  · exact ⟨o, q, rfl⟩
  · exact ⟨_, q, rfl⟩
end
end Mine
end

section
set_option maxRecDepth 100000
namespace Mine
open PySem PySem.W PyProof.Rows PySem.Calls PySem.SeqAt

theorem ns_kf {Fs : List Addr} {h h' : Heap} (k : Kf Fs h h') {a : Addr} {m : Str → Option Value} (hn : h.Ns a m) : h'.Ns a m := by
  obtain ⟨o, es, ep, e, d, r⟩ := hn
  rcases k _ _ e with q | ⟨_, sl, q⟩
  · exact ⟨o, es, ep, q, d, r⟩
  · exact ⟨_, es, ep, q, d, r⟩
theorem cr_kf {Fs : List Addr} {h h' : Heap} (k : Kf Fs h h') {cd : Value} {q : Str} (x : h.CodeRec cd q) : h'.CodeRec cd q := by
  obtain ⟨c, o, vs, t, e, g, d, r⟩ := x
  rcases k _ _ g with q | ⟨_, sl, q⟩
  · exact ⟨c, o, vs, t, e, q, d, r⟩
  · exact ⟨c, _, vs, t, e, q, d, r⟩
theorem Bs.kf {fa : Nat → Addr} {Fs : List Addr} {h h' : Heap} (B : Bs fa h) (k : Kf Fs h h') : Bs fa h' := by
  refine ⟨let ⟨mc, hn, e⟩ := B.lim; ⟨mc, ns_kf k hn, e⟩, fun n hn => ?_, ?_, ?_⟩
  · obtain ⟨o, nm, q, doc, pm, an, cd, ct, e, d, c⟩ := B.fn n hn
    rcases k _ _ e with q' | ⟨_, sl, q'⟩
    · exact ⟨o, nm, q, doc, pm, an, cd, ct, q', d, cr_kf k c⟩
    · exact ⟨_, nm, q, doc, pm, an, cd, ct, q', d, cr_kf k c⟩
  · obtain ⟨o, nm, q, doc, pm, an, cd, ct, kd, mk, u, e1, e2, e3, e4, e5⟩ := B.d3
    rcases k _ _ e1 with q' | ⟨_, sl, q'⟩
    · exact ⟨o, nm, q, doc, pm, an, cd, ct, kd, mk, u, q', e2, cr_kf k e3, ns_kf k e4, e5⟩
    · exact ⟨_, nm, q, doc, pm, an, cd, ct, kd, mk, u, q', e2, cr_kf k e3, ns_kf k e4, e5⟩
  · obtain ⟨mg, mb, h1, h2, h3⟩ := B.glob
    exact ⟨mg, mb, ns_kf k h1, ns_kf k h2, h3⟩

structure D7 (Fs : List Addr) (h₀ : Heap) (env : Env) (Y : List Addr) (am au : Addr) (o : Bool) (Es As : List (List Nat)) (i j : Nat) (mis : List (List Nat)) (h : Heap) (m cm : Str → Option Value) : Prop where
  F : FS Fs h₀ env h m cm
  al : Al (au :: am :: Y) h
  e : ∃ v, m (Str.ofString "expected") = some v ∧ LsR (TxR o) Es (au :: am :: Y) h v
  a : ∃ v, m (Str.ofString "actual") = some v ∧ LsR (TxR o) As (au :: am :: Y) h v
  i : ∃ t, m (Str.ofString "i") = some (.int i t)
  j : ∃ t, m (Str.ofString "j") = some (.int j t)
  mm : m (Str.ofString "missing") = some (.ref am)
  ml : ∃ vs, h.PlainList am vs.toArray ∧ All2 (fun u d => TxR o d (au :: am :: Y) h u) vs mis
  um : m (Str.ofString "unexpected") = some (.ref au)
  ul : h.PlainList au #[]
def n7 : List Str := [Str.ofString "expected", Str.ofString "actual", Str.ofString "missing", Str.ofString "unexpected"]
theorem plain_keep {h h' : Heap} {a : Addr} {its : Array Value} {Fs : List Addr} {env : Env} (sx : Sx Fs [] env h h') (hl : h.PlainList a its) : h'.PlainList a its := by
  obtain ⟨n, e⟩ := hl
  exact ⟨n, sx.keep a _ (by simp) (.inl ⟨_, _, rfl⟩) e⟩

section
variable {Fs : List Addr} {h₀ : Heap} {env : Env} {Y : List Addr} {am au : Addr} {o : Bool} {Es As : List (List Nat)} {i j i' j' : Nat} {mis : List (List Nat)} {h h' : Heap} {m m' cm : Str → Option Value}
theorem D7.step (D : D7 Fs h₀ env Y am au o Es As i j mis h m cm) (F' : FS Fs h₀ env h' m' cm) (sx : Sx Fs [] env h h') (ag : ∀ x ∈ n7, m' x = m x) (hi : ∃ t, m' (Str.ofString "i") = some (.int i' t)) (hj : ∃ t, m' (Str.ofString "j") = some (.int j' t)) :
    D7 Fs h₀ env Y am au o Es As i' j' mis h' m' cm := by
  have lw : Lw (au :: am :: Y) h (au :: am :: Y) h' := sx.up (by simp)
  obtain ⟨ve, me, re⟩ := D.e
  obtain ⟨va, ma, ra⟩ := D.a
  obtain ⟨vs, hl, hx⟩ := D.ml
  exact ⟨F', sx.al D.al, ⟨ve, (ag _ (by simp [n7])).trans me, (gr_ls (gr_tx o) _).up lw re⟩, ⟨va, (ag _ (by simp [n7])).trans ma, (gr_ls (gr_tx o) _).up lw ra⟩, hi, hj, (ag _ (by simp [n7])).trans D.mm, ⟨vs, plain_keep sx hl, hx.imp fun u d _ _ r => r⟩, (ag _ (by simp [n7])).trans D.um, plain_keep sx D.ul⟩
theorem D7.kf {outer : List Env} (D : D7 Fs h₀ env Y am au o Es As i j mis h m cm) (k : Kf (env.locals :: Fs) h h') (hFs : ∀ b ∈ Fs, ∃ mf, h₀.Ns b mf) : D7 Fs h₀ env Y am au o Es As i j mis h' m cm :=
  D.step (D.F.kf k) (kf_sx k (nf_of (outer := outer) D.F hFs)) (fun _ _ => rfl) D.i D.j
theorem D7.kp (D : D7 Fs h₀ env Y am au o Es As i j mis h m cm) (k : Kp h h') : D7 Fs h₀ env Y am au o Es As i j mis h' m cm :=
  D.step (D.F.kp k) (Sx.of_kp k) (fun _ _ => rfl) D.i D.j
end

section
variable {prog : Program} {w : World} {A : Around} {fa : Nat → Addr} {Fs : List Addr} {h₀ b : Heap} {q : Str} {cd : Value} {L : Addr} {Y : List Addr} {am au e : Addr} {o c t : Bool} {Es As : List (List Nat)} {i j : Nat} {mis : List (List Nat)} {m cm : Str → Option Value} {s₁ : Shared} {outer : List Env} {E : Value → Shared → Prop}
def hnd7 : List ExceptHandler := match (fbody 7).getD 3 (Stmt.Pass default) with | Stmt.While _ [Stmt.Try _ hs _ _ _] _ _ => hs | _ => []
/-- the handler -/
theorem h7 {Q : Flow → Shared → Prop} (hfr : A.frames = some (fenv 7 q cd L (fa 7) :: outer)) (hFL : ∀ x ∈ outer.filterMap (·.frame), x ∈ Fs) (ho : h₀.FunFrames default outer) (hFs : ∀ x ∈ Fs, ∃ mf, h₀.Ns x mf) (B : Bs fa b) (nam : h₀.get? am = none) (nau : h₀.get? au = none) (hne : am ≠ au)
    (D : D7 Fs h₀ (fenv 7 q cd L (fa 7)) Y am au o Es As i j mis b m cm) (hj : As.length ≤ j) (hsz : Es.length ≤ 1000) (hsa : As.length ≤ 1000) (hmis : mis.length ≤ 1000) (x : Ex (L :: Fs) c t b e s₁.heap)
    (k : ∀ h' tk, D7 Fs h₀ (fenv 7 q cd L (fa 7)) Y am au o Es As i j (mis ++ Es.drop i) h' m cm → Q .brk { s₁ with heap := h', toks := tk }) :
    wpAny (model prog w) A (noteFrame (.ref e) (fenv 7 q cd L (fa 7))) (fun _ s₂ => wpAny (model prog w) A (setFlight (.ref e) none) (fun _ s₃ => wpAny (model prog w) A (handleBy (.ref e) (fenv 7 q cd L (fa 7)) hnd7) Q E s₃) E s₂) E s₁ := by
  have sl : ∀ {n : Nat}, n ≤ 1000000 → n ≤ sizeLine := fun h => by rw [sizeLine_eq]; omega
  have hFL' : ∀ x ∈ (fenv 7 q cd L (fa 7) :: outer).filterMap (·.frame), x ∈ L :: Fs := fun x hx => by
    rcases List.mem_cons.mp (show x ∈ L :: outer.filterMap (·.frame) from hx) with rfl | hx
    · exact .head _
    · exact .tail _ (hFL x hx)
  have D1 := D.kf (outer := outer) x.keep hFs
  refine ex_note hfr (ff_of D1.F ho rfl rfl) rfl hFL' x fun h2 x2 f2 => ?_
  refine ex_flight (s := { s₁ with heap := h2 }) f2 x2 fun h3 x3 f3 => ?_
  have D3 := D.kf (outer := outer) x3.keep hFs
  have B3 := B.kf x3.keep
  obtain ⟨oe, vs, he, hc, hd, _⟩ := x3.obj
  refine wpAny_handleBy_builtin (X := "IndexError") (T := "IndexError") (b := true) (by rw [isSubtype_type]; kernel_rfl) (by rw [isSubtype_type]; kernel_rfl) (by rw [isSubtype_type]; kernel_rfl) (see_load (s := { s₁ with heap := h3 }) (B3.b (v := .type "IndexError") (by decide) rfl rfl rfl) rfl (by decide) ⟨rfl, ⟨oe, he, hc⟩, ?_⟩)
  simp only [if_true]
  refine ex_flight (s := { s₁ with heap := h3 }) f3 x3 fun h4 x4 f4 => ?_
  have D4 := D.kf (outer := outer) x4.keep hFs
  obtain ⟨ve, me, re⟩ := D4.e
  obtain ⟨va, ma, ra⟩ := D4.a
  obtain ⟨ti, mi⟩ := D4.i
  obtain ⟨tj, mj⟩ := D4.j
  obtain ⟨us, hl, hx⟩ := D4.ml
  have hlen := hx.length
  refine wpAny_execs_cons (st_extend (s := { s₁ with heap := h4 }) (X := au :: am :: Y) (R := TxR o) (ds := Es.drop i) D4.F D4.al (by simp) nam hl (.loc rfl D4.F.ns D4.mm)
    (ev_from_list (k := i) (ev_name (.loc rfl D4.F.ns me) (gr_ls (gr_tx o) _) re rfl (by decide)) (gr_tx o) (ev_name (.loc rfl D4.F.ns mi) (gr_int _) ⟨ti, rfl⟩ rfl (by decide)) (sl (by omega)) (fun _ _ => rfl)) (gr_tx o) (sl (by simp; omega)) ?_ rfl (by decide) rfl rfl rfl rfl rfl)
  intro ws h5 t5 F5 sx5 al5 hl5 hx5
  have lw5 : Lw (au :: am :: Y) h4 (au :: am :: Y) h5 := sx5.up (by simp)
  have ul5 : h5.PlainList au #[] := by
    obtain ⟨n, en⟩ := D4.ul
    exact ⟨n, sx5.keep au _ (by simpa using Ne.symm hne) (.inl ⟨_, _, rfl⟩) en⟩
  have hdj : As.drop j = [] := List.drop_eq_nil_of_le hj
  have ra5 : LsR (TxR o) As (au :: am :: Y) h5 va := (gr_ls (gr_tx o) _).up lw5 ra
  refine wpAny_execs_cons (st_extend (s := { s₁ with heap := h5, toks := t5 }) (X := au :: am :: Y) (R := TxR o) (ds := As.drop j) F5 al5 (by simp) nau (vs := []) ul5 (.loc rfl F5.ns D4.um)
    (ev_from_list (k := j) (ev_name (.loc rfl F5.ns ma) (gr_ls (gr_tx o) _) ra5 rfl (by decide)) (gr_tx o) (ev_name (.loc rfl F5.ns mj) (gr_int _) ⟨tj, rfl⟩ rfl (by decide)) (sl (by omega)) (fun _ _ => rfl)) (gr_tx o) (sl (by simp; omega)) ?_ rfl (by decide) rfl rfl rfl rfl rfl)
  intro ws6 h6 t6 F6 sx6 al6 hl6 hx6
  rw [hdj] at hx6
  cases hx6
  have lw6 : Lw (au :: am :: Y) h5 (au :: am :: Y) h6 := sx6.up (by simp)
  have hl6' : h6.PlainList am (us ++ ws).toArray := by
    obtain ⟨n, en⟩ := hl5
    exact ⟨n, sx6.keep am _ (by simpa using hne) (.inl ⟨_, _, rfl⟩) en⟩
  refine wpAny_execs_cons ?_
  show wpAny _ _ (exec (.Break _) _) _ _ _
  refine wpAny_Break ?_
  exact k h6 t6 ⟨F6, al6, ⟨ve, me, (gr_ls (gr_tx o) _).up lw6 ((gr_ls (gr_tx o) _).up lw5 re)⟩, ⟨va, ma, (gr_ls (gr_tx o) _).up lw6 ra5⟩, ⟨ti, mi⟩, ⟨tj, mj⟩, D4.mm, ⟨us ++ ws, hl6', (hx.imp fun u d _ _ r => r).append (hx5.imp fun u d _ _ r => r)⟩, D4.um, by simpa using hl6⟩
end
end Mine
end

section
set_option maxRecDepth 100000
namespace Mine
open PySem PySem.W PyProof.Rows PySem.Calls PySem.SeqAt

structure P7 (Es As : List (List Nat)) (i j : Nat) (mis : List (List Nat)) : Prop where
  inv : mis ++ (Es.drop i).filter (fun x => decide (x ∉ As.drop j)) = Es.filter (fun x => decide (x ∉ As))
  sub : ∀ x ∈ As.drop j, x ∈ Es.drop i
  hi : i ≤ Es.length
  hj : j ≤ As.length
  len : mis.length ≤ i
theorem P7.fin {Es As : List (List Nat)} {i j : Nat} {mis : List (List Nat)} (p : P7 Es As i j mis) (hj : As.length ≤ j) : mis ++ Es.drop i = Es.filter (fun x => decide (x ∉ As)) := by
  have := p.inv
  rw [List.drop_eq_nil_of_le hj] at this
  rw [← this]; congr 1
  exact (List.filter_eq_self.mpr (by simp)).symm
theorem P7.ge {Es As : List (List Nat)} {i j : Nat} {mis : List (List Nat)} (p : P7 Es As i j mis) (hE : Es.Pairwise (· < ·)) (hj : j < As.length) : ∃ hi : i < Es.length, ¬ As[j] < Es[i] := by
  have hm := p.sub As[j] (by rw [List.drop_eq_getElem_cons hj]; exact .head _)
  have hi : i < Es.length := by
    rcases Nat.lt_or_ge i Es.length with h | h
    · exact h
    · rw [List.drop_eq_nil_of_le h] at hm; cases hm
  refine ⟨hi, ?_⟩
  rw [List.drop_eq_getElem_cons hi] at hm
  rcases List.mem_cons.mp hm with e | hm
  · rw [e]; exact List.lt_irrefl _
  · have pw : (Es.drop i).Pairwise (· < ·) := hE.sublist (List.drop_sublist _ _)
    rw [List.drop_eq_getElem_cons hi] at pw
    exact List.lt_asymm ((List.pairwise_cons.mp pw).1 _ hm)
theorem P7.lt {Es As : List (List Nat)} {i j : Nat} {mis : List (List Nat)} (p : P7 Es As i j mis) (hE : Es.Pairwise (· < ·)) (hA : As.Pairwise (· < ·)) (hi : i < Es.length) (hj : j < As.length) (h : Es[i] < As[j]) :
    P7 Es As (i + 1) j (mis ++ [Es[i]]) ∧ ∃ h1 : i + 1 < Es.length, Es[i + 1] ≠ Es[i] := by
  have pwA : (As.drop j).Pairwise (· < ·) := hA.sublist (List.drop_sublist _ _)
  have pwE : (Es.drop i).Pairwise (· < ·) := hE.sublist (List.drop_sublist _ _)
  have notin : Es[i] ∉ As.drop j := by
    rw [List.drop_eq_getElem_cons hj] at pwA ⊢
    intro hm
    rcases List.mem_cons.mp hm with e | hm
    · rw [e] at h; exact List.lt_irrefl _ h
    · exact List.lt_asymm h ((List.pairwise_cons.mp pwA).1 _ hm)
  have hm := p.sub As[j] (by rw [List.drop_eq_getElem_cons hj]; exact .head _)
  have hmem : As[j] ∈ Es.drop (i + 1) := by
    rw [List.drop_eq_getElem_cons hi] at hm
    rcases List.mem_cons.mp hm with e | hm
    · rw [e] at h; exact absurd h (List.lt_irrefl _)
    · exact hm
  refine ⟨⟨?_, fun x hx => ?_, hi, p.hj, by have := p.len; simp; omega⟩, ?_⟩
  · have := p.inv
    rw [List.drop_eq_getElem_cons hi, List.filter_cons_of_pos (by simpa using notin)] at this
    simpa using this
  · have := p.sub x hx
    rw [List.drop_eq_getElem_cons hi] at this
    rcases List.mem_cons.mp this with e | hm
    · rw [e] at hx; exact absurd hx notin
    · exact hm
  · have h1 : i + 1 < Es.length := by
      rcases Nat.lt_or_ge (i + 1) Es.length with q | q
      · exact q
      · rw [List.drop_eq_nil_of_le q] at hmem; cases hmem
    refine ⟨h1, fun e => ?_⟩
    have := List.pairwise_iff_getElem.mp hE i (i + 1) hi h1 (Nat.lt_succ_self _)
    rw [e] at this; exact List.lt_irrefl _ this
theorem P7.eq {Es As : List (List Nat)} {i j : Nat} {mis : List (List Nat)} (p : P7 Es As i j mis) (hE : Es.Pairwise (· < ·)) (hA : As.Pairwise (· < ·)) (hi : i < Es.length) (hj : j < As.length) (h : Es[i] = As[j]) :
    P7 Es As (i + 1) (j + 1) mis ∧ (∀ h1 : i + 1 < Es.length, Es[i + 1] ≠ Es[i]) ∧ (∀ h1 : j + 1 < As.length, As[j + 1] ≠ As[j]) ∧ (Es.length ≤ i + 1 → As.length ≤ j + 1) := by
  have pwA : (As.drop j).Pairwise (· < ·) := hA.sublist (List.drop_sublist _ _)
  have pwE : (Es.drop i).Pairwise (· < ·) := hE.sublist (List.drop_sublist _ _)
  have sub : ∀ x ∈ As.drop (j + 1), x ∈ Es.drop (i + 1) := fun x hx => by
    have := p.sub x (by rw [List.drop_eq_getElem_cons hj]; exact .tail _ hx)
    rw [List.drop_eq_getElem_cons hi] at this
    rcases List.mem_cons.mp this with e | hm
    · rw [List.drop_eq_getElem_cons hj] at pwA
      have := (List.pairwise_cons.mp pwA).1 _ hx
      rw [e, h] at this; exact absurd this (List.lt_irrefl _)
    · exact hm
  refine ⟨⟨?_, sub, hi, hj, by have := p.len; omega⟩, fun h1 e => ?_, fun h1 e => ?_, fun h1 => ?_⟩
  · have := p.inv
    rw [← this]; congr 1
    have key : ∀ x, x ∈ As.drop j ↔ x = As[j] ∨ x ∈ As.drop (j + 1) := fun x => by rw [List.drop_eq_getElem_cons hj]; exact List.mem_cons
    rw [List.drop_eq_getElem_cons hi, List.filter_cons_of_neg (by rw [h, decide_eq_true_eq]; exact fun q => q ((key _).mpr (.inl rfl)))]
    rw [List.drop_eq_getElem_cons hi] at pwE
    refine (List.filter_congr fun x hx => ?_)
    have hne : x ≠ As[j] := fun e => by
      have := (List.pairwise_cons.mp pwE).1 _ hx
      rw [e, h] at this; exact List.lt_irrefl _ this
    exact decide_eq_decide.mpr (not_congr ⟨fun q => (key x).mpr (.inr q), fun q => ((key x).mp q).resolve_left hne⟩)
  · have := List.pairwise_iff_getElem.mp hE i (i + 1) hi h1 (Nat.lt_succ_self _)
    rw [e] at this; exact List.lt_irrefl _ this
  · have := List.pairwise_iff_getElem.mp hA j (j + 1) hj h1 (Nat.lt_succ_self _)
    rw [e] at this; exact List.lt_irrefl _ this
  · rcases Nat.lt_or_ge (j + 1) As.length with q | q
    · have := sub As[j + 1] (by rw [List.drop_eq_getElem_cons q]; exact .head _)
      rw [List.drop_eq_nil_of_le h1] at this; cases this
    · exact q
def try7 : Stmt := match (fbody 7).getD 3 (Stmt.Pass default) with | Stmt.While _ [t] _ _ => t | _ => Stmt.Pass default

section
variable {prog : Program} {w : World} {A : Around} {fa : Nat → Addr} {Fs : List Addr} {h₀ : Heap} {q : Str} {cd : Value} {L : Addr} {Y : List Addr} {am au : Addr} {o : Bool} {Es As : List (List Nat)} {i j : Nat} {mis : List (List Nat)} {m cm : Str → Option Value} {s : Shared} {outer : List Env} {E : Value → Shared → Prop}
theorem t7 {k0 : Nat} (hA : Ok k0 A) (hfr : A.frames = some (fenv 7 q cd L (fa 7) :: outer)) (hFL : ∀ x ∈ outer.filterMap (·.frame), x ∈ Fs) (ho : h₀.FunFrames default outer) (hFs : ∀ x ∈ Fs, ∃ mf, h₀.Ns x mf) (B : Bs fa h₀) (nam : h₀.get? am = none) (nau : h₀.get? au = none) (hne : am ≠ au)
    (hE : Es.Pairwise (· < ·)) (hAs : As.Pairwise (· < ·)) (hsz : Es.length ≤ 1000) (hsa : As.length ≤ 1000) (p : P7 Es As i j mis) (hor : j < As.length ∨ (As.length ≤ j ∧ i < Es.length))
    (D : D7 Fs h₀ (fenv 7 q cd L (fa 7)) Y am au o Es As i j mis s.heap m cm) :
    wpAny (model prog w) A (exec try7 (fenv 7 q cd L (fa 7)))
      (fun f s₃ => match f with
        | .next => ∃ i' j' mis' m' h' tk', s₃ = { s with heap := h', toks := tk' } ∧ i < i' ∧ i' ≤ Es.length ∧ P7 Es As i' j' mis' ∧ j' < As.length ∧ D7 Fs h₀ (fenv 7 q cd L (fa 7)) Y am au o Es As i' j' mis' h' m' cm
        | .brk => ∃ i' j' m' h' tk', s₃ = { s with heap := h', toks := tk' } ∧ D7 Fs h₀ (fenv 7 q cd L (fa 7)) Y am au o Es As i' j' (Es.filter fun x => decide (x ∉ As)) h' m' cm
        | _ => False) E s := by
  have gt := gr_tx o
  have hi : i < Es.length := by
    rcases hor with h | h
    · exact (p.ge hE h).1
    · exact h.2
  have hml : mis.length ≤ 1000 := by have := p.len; have := p.hi; omega
  have sl : ∀ {n : Nat}, n ≤ 1000000 → n ≤ sizeLine := fun h => by rw [sizeLine_eq]; omega
  have hFL' : ∀ x ∈ (fenv 7 q cd L (fa 7) :: outer).filterMap (·.frame), x ∈ L :: Fs := fun x hx => by
    rcases List.mem_cons.mp (show x ∈ L :: outer.filterMap (·.frame) from hx) with rfl | hx
    · exact .head _
    · exact .tail _ (hFL x hx)
  have upm : ∀ (m : Str → Option Value) (x : Str) (v : Value), x ∉ n7 → ∀ y ∈ n7, upd m x v y = m y := fun m x v hx y hy => by
    unfold upd; rw [if_neg]; rintro rfl; exact hx hy
  obtain ⟨ve, me, re⟩ := D.e
  obtain ⟨ti, mi⟩ := D.i
  refine wpAny_Try_except (wpAny_execs_cons (as_name (R := TxR o Es[i]) D.F D.al (ev_Sub (ev_name (.loc rfl D.F.ns me) (gr_ls gt _) re rfl (by decide)) (gr_ls gt _) (ev_name (.loc rfl D.F.ns mi) (gr_int _) ⟨ti, rfl⟩ rfl (by decide)) fun Z h' a b l ra rb => ev_item_list ra rb (by omega) (by omega) (by simpa using List.getElem?_eq_getElem hi) gt (fun _ _ => rfl)) (gt _) (fun v => .loc rfl) rfl rfl ?_))
  intro v₁ h₁ t₁ F₁ sx₁ al₁ r₁
  have D1 : D7 Fs h₀ (fenv 7 q cd L (fa 7)) Y am au o Es As i j mis h₁ (upd m (Str.ofString "e") v₁) cm := D.step F₁ sx₁.fs (upm _ _ _ (by decide)) D.i D.j
  obtain ⟨va, ma, ra⟩ := D1.a
  obtain ⟨tj, mj⟩ := D1.j
  by_cases hj : As.length ≤ j
  · -- nothing left of the second: the first item out of range
    refine wpAny_execs_cons (wpAny_Assign_Name (Subscript_ (see_load (s := { s with heap := h₁, toks := t₁ }) (.loc rfl F₁.ns ma) rfl (by decide) (see_load (s := { s with heap := h₁, toks := t₁ }) (.loc rfl F₁.ns mj) rfl (by decide) ?_))) rfl)
    obtain ⟨l, vs, rfl, _, hl, hx⟩ := ra
    have hlen := hx.length
    have := p.hj
    refine item_out (s := { s with heap := h₁, toks := t₁ }) (FL := L :: Fs) hA.handled hl.isList (by simp; omega) (by omega) (fun h' tk e x => ?_) rfl
    refine h7 (s₁ := { s with heap := h', toks := tk }) hfr hFL ho hFs (B.kf F₁.base) nam nau hne D1 hj hsz hsa hml x fun h'' tk'' D'' => ⟨i, j, _, h'', tk'', rfl, by rw [p.fin hj] at D''; exact D''⟩
  have hj : j < As.length := Nat.lt_of_not_le hj
  refine wpAny_execs_cons (as_name (s := { s with heap := h₁, toks := t₁ }) (R := TxR o As[j]) F₁ al₁ (ev_Sub (ev_name (.loc rfl F₁.ns ma) (gr_ls gt _) ra rfl (by decide)) (gr_ls gt _) (ev_name (.loc rfl F₁.ns mj) (gr_int _) ⟨tj, rfl⟩ rfl (by decide)) fun Z h' a b l ra rb => ev_item_list ra rb (by omega) (by omega) (by simpa using List.getElem?_eq_getElem hj) gt (fun _ _ => rfl)) (gt _) (fun v => .loc rfl) rfl rfl ?_)
  intro v₂ h₂ t₂ F₂ sx₂ al₂ r₂
  have D2 : D7 Fs h₀ (fenv 7 q cd L (fa 7)) Y am au o Es As i j mis h₂ (upd (upd m (Str.ofString "e") v₁) (Str.ofString "a") v₂) cm := D1.step F₂ sx₂.fs (upm _ _ _ (by decide)) D1.i D1.j
  obtain ⟨hi', hge⟩ := p.ge hE hj
  refine wpAny_execs_cons (wpAny_If ((tr_Cmp (X := au :: am :: Y) (h := h₂) (c := decide (Es[i] < As[j])) (ev_name (.loc rfl F₂.ns rfl) (gt _) r₁ rfl (by decide)) (gt _) (ev_name (.loc rfl F₂.ns rfl) (gt _) r₂ rfl (by decide)) (fun Z h' a b l ra rb => op_tlt ra rb) rfl).here (s := { s with heap := h₂, toks := t₂ }) al₂ fun b h₃ t₃ k₃ rb => ?_))
  obtain rfl := rb
  have D3 := D2.kp k₃
  by_cases hlt : Es[i] < As[j]
  · obtain ⟨p', h1, hne1⟩ := p.lt hE hAs hi hj hlt
    rw [decide_eq_true hlt]
    obtain ⟨us, hl, hx⟩ := D3.ml
    have hlen := hx.length
    refine wpAny_execs_cons (st_append (s := { s with heap := h₃, toks := t₃ }) (X := au :: am :: Y) (R := TxR o Es[i]) D3.F D3.al (by simp) nam hl (.loc rfl D3.F.ns D3.mm) (ev_name (.loc rfl D3.F.ns rfl) (gt _) r₁ rfl (by decide)) (gt _) (sl (by omega)) ?_ rfl (by decide) rfl rfl rfl rfl rfl)
    intro v₄ h₄ t₄ F₄ sx₄ al₄ hl₄ r₄
    have lw₄ : Lw (au :: am :: Y) h₃ (au :: am :: Y) h₄ := sx₄.up (by simp)
    obtain ⟨ve3, me3, re3⟩ := D3.e
    obtain ⟨va3, ma3, ra3⟩ := D3.a
    have D4 : D7 Fs h₀ (fenv 7 q cd L (fa 7)) Y am au o Es As i j (mis ++ [Es[i]]) h₄ (upd (upd m (Str.ofString "e") v₁) (Str.ofString "a") v₂) cm :=
      ⟨F₄, al₄, ⟨ve3, me3, (gr_ls gt _).up lw₄ re3⟩, ⟨va3, ma3, (gr_ls gt _).up lw₄ ra3⟩, D3.i, D3.j, D3.mm, ⟨us ++ [v₄], hl₄, (hx.imp fun u d _ _ r => r).snoc r₄⟩, D3.um, by
        obtain ⟨n, en⟩ := D3.ul
        exact ⟨n, sx₄.keep au _ (by simpa using Ne.symm hne) (.inl ⟨_, _, rfl⟩) en⟩⟩
    obtain ⟨ti4, mi4⟩ := D4.i
    refine wpAny_execs_cons (st_aug (s := { s with heap := h₄, toks := t₄ }) (X := au :: am :: Y) D4.F D4.al rfl mi4 rfl ?_)
    intro t5 h₅ tk₅ F₅ sx₅ al₅
    have D5 : D7 Fs h₀ (fenv 7 q cd L (fa 7)) Y am au o Es As (i + 1) j (mis ++ [Es[i]]) h₅ _ cm := D4.step F₅ sx₅.fs (upm _ _ _ (by decide)) ⟨t5, rfl⟩ D4.j
    obtain ⟨ve5, me5, re5⟩ := D5.e
    refine wpAny_execs_cons (w_end (s := { s with heap := h₅, toks := tk₅ }) (X := au :: am :: Y) (o := o) (k := i + 1) al₅ (.loc rfl F₅.ns me5) (.loc rfl F₅.ns rfl) ⟨v₁, .loc rfl F₅.ns rfl, r₁⟩ re5 ⟨t5, rfl⟩ (List.getElem?_eq_getElem h1) hne1 (by omega) rfl (by decide) (by decide) (by decide) fun h₆ t₆ k₆ => ?_)
    refine wpAny_execs_nil (wpAny_execs_nil (wpAny_execs_nil ⟨i + 1, j, _, _, h₆, t₆, rfl, by omega, p'.hi, p', hj, D5.kp k₆⟩))
  · rw [decide_eq_false hlt]
    have heq : Es[i] = As[j] := List.le_antisymm (List.not_lt.mp hge) (List.not_lt.mp hlt)
    refine wpAny_execs_cons (wpAny_If ((tr_Cmp (X := au :: am :: Y) (h := h₃) (c := decide (As[j] < Es[i])) (ev_name (.loc rfl D3.F.ns rfl) (gt _) r₁ rfl (by decide)) (gt _) (ev_name (.loc rfl D3.F.ns rfl) (gt _) r₂ rfl (by decide)) (fun Z h' a b l ra rb => op_tgt ra rb) rfl).here (s := { s with heap := h₃, toks := t₃ }) D3.al fun b h₄ t₄ k₄ rb => ?_))
    obtain rfl := rb
    rw [decide_eq_false hge]
    have D4 := D3.kp k₄
    obtain ⟨p', hE1, hA1, hend⟩ := p.eq hE hAs hi hj heq
    obtain ⟨ti4, mi4⟩ := D4.i
    refine wpAny_execs_cons (st_aug (s := { s with heap := h₄, toks := t₄ }) (X := au :: am :: Y) D4.F D4.al rfl mi4 rfl ?_)
    intro t5 h₅ tk₅ F₅ sx₅ al₅
    have D5 : D7 Fs h₀ (fenv 7 q cd L (fa 7)) Y am au o Es As (i + 1) j mis h₅ _ cm := D4.step F₅ sx₅.fs (upm _ _ _ (by decide)) ⟨t5, rfl⟩ D4.j
    obtain ⟨ve5, me5, re5⟩ := D5.e
    refine wpAny_execs_cons (wpAny_Try_finally (wpAny_execs_cons ?_))
    by_cases hi1 : i + 1 < Es.length
    · refine w_end (s := { s with heap := h₅, toks := tk₅ }) (X := au :: am :: Y) (o := o) (k := i + 1) al₅ (.loc rfl F₅.ns me5) (.loc rfl F₅.ns rfl) ⟨v₁, .loc rfl F₅.ns rfl, r₁⟩ re5 ⟨t5, rfl⟩ (List.getElem?_eq_getElem hi1) (hE1 hi1) (by omega) rfl (by decide) (by decide) (by decide) fun h₆ t₆ k₆ => ?_
      have D6 := D5.kp k₆
      obtain ⟨tj6, mj6⟩ := D6.j
      refine wpAny_execs_nil (wpAny_execs_nil (wpAny_execs_cons (st_aug (s := { s with heap := h₆, toks := t₆ }) (X := au :: am :: Y) D6.F D6.al rfl mj6 rfl ?_)))
      intro t7 h₇ tk₇ F₇ sx₇ al₇
      have D7' : D7 Fs h₀ (fenv 7 q cd L (fa 7)) Y am au o Es As (i + 1) (j + 1) mis h₇ _ cm := D6.step F₇ sx₇.fs (upm _ _ _ (by decide)) D6.i ⟨t7, rfl⟩
      obtain ⟨va7, ma7, ra7⟩ := D7'.a
      by_cases hj1 : j + 1 < As.length
      · refine wpAny_execs_cons (w_end (s := { s with heap := h₇, toks := tk₇ }) (X := au :: am :: Y) (o := o) (k := j + 1) al₇ (.loc rfl F₇.ns ma7) (.loc rfl F₇.ns rfl) ⟨v₂, .loc rfl F₇.ns rfl, r₂⟩ ra7 ⟨t7, rfl⟩ (List.getElem?_eq_getElem hj1) (hA1 hj1) (by omega) rfl (by decide) (by decide) (by decide) fun h₈ t₈ k₈ => ?_)
        exact wpAny_execs_nil (wpAny_execs_nil (wpAny_execs_nil (wpAny_execs_nil (wpAny_execs_nil ⟨i + 1, j + 1, _, _, h₈, t₈, rfl, by omega, p'.hi, p', hj1, D7'.kp k₈⟩))))
      · refine wpAny_execs_cons (w_out (s := { s with heap := h₇, toks := tk₇ }) (X := au :: am :: Y) (o := o) (k := j + 1) (Fs := Fs) hA.handled hfr (ff_of F₇ ho rfl rfl) rfl hFL' (.loc rfl F₇.ns ma7) (.loc rfl F₇.ns rfl) ra7 ⟨t7, rfl⟩ (by omega) (by omega) rfl (by decide) (by decide) fun h₈ t₈ e x ff => ?_)
        refine ex_note (s := { s with heap := h₈, toks := t₈ }) hfr ff rfl hFL' x fun h₉ x₉ f₉ => ex_back (s := { s with heap := h₉, toks := t₈ }) f₉ x₉ fun h₁₀ x₁₀ f₁₀ => ?_
        exact h7 (s₁ := { s with heap := h₁₀, toks := t₈ }) hfr hFL ho hFs (B.kf F₇.base) nam nau hne D7' (by omega) hsz hsa hml x₁₀ fun h'' tk'' D'' => ⟨i + 1, j + 1, _, h'', tk'', rfl, by rw [p'.fin (by omega)] at D''; exact D''⟩
    · have hj1 : As.length ≤ j + 1 := hend (by omega)
      refine w_out (s := { s with heap := h₅, toks := tk₅ }) (X := au :: am :: Y) (o := o) (k := i + 1) (Fs := Fs) hA.handled hfr (ff_of F₅ ho rfl rfl) rfl hFL' (.loc rfl F₅.ns me5) (.loc rfl F₅.ns rfl) re5 ⟨t5, rfl⟩ (by omega) (by omega) rfl (by decide) (by decide) fun h₆ t₆ e x ff => ?_
      refine ex_note (s := { s with heap := h₆, toks := t₆ }) hfr ff rfl hFL' x fun h₇ x₇ f₇ => ⟨ref_ne_byPass e, ?_⟩
      refine ex_note (s := { s with heap := h₇, toks := t₆ }) hfr f₇ rfl hFL' x₇ fun h₈ x₈ f₈ => ?_
      refine ex_flight (s := { s with heap := h₈, toks := t₆ }) f₈ x₈ fun h₉ x₉ f₉ => ?_
      have D9 := D5.kf (outer := outer) x₉.keep hFs
      obtain ⟨tj9, mj9⟩ := D9.j
      obtain ⟨oe, vs, he, hc, hd, hvs, h2, _⟩ := x₉.obj
      refine wpAny_execs_cons (st_aug (s := { s with heap := h₉, toks := t₆ }) (X := au :: am :: Y) D9.F D9.al rfl mj9 rfl ?_)
      intro t10 h₁₀ tk₁₀ F₁₀ sx₁₀ al₁₀
      have D10 : D7 Fs h₀ (fenv 7 q cd L (fa 7)) Y am au o Es As (i + 1) (j + 1) mis h₁₀ _ cm := D9.step F₁₀ sx₁₀.fs (upm _ _ _ (by decide)) D9.i ⟨t10, rfl⟩
      obtain ⟨va10, ma10, ra10⟩ := D10.a
      have heL : e ≠ (fenv 7 q cd L (fa 7)).locals := by
        rintro rfl
        obtain ⟨ol, _, _, el, _⟩ := F₅.ns
        rw [x₉.new] at el; cases el
      have heC : ∀ n, (fenv 7 q cd L (fa 7)).cells.lookup n ≠ some e := fun n q => by
        obtain ⟨oc, ec, _⟩ := F₅.cl.cell n e q
        rw [x₉.new] at ec; cases ec
      have he10 : h₁₀.get? e = some oe := sx₁₀.ef0 (by simp) heL heC he
      refine wpAny_execs_cons (w_over (s := { s with heap := h₁₀, toks := tk₁₀ }) (X := au :: am :: Y) (o := o) (k := j + 1) (Fs := Fs) (e₀ := e) rfl he10 hd (h2 rfl) hfr (ff_of F₁₀ ho rfl rfl) rfl hFL' (.loc rfl F₁₀.ns ma10) (.loc rfl F₁₀.ns rfl) ra10 ⟨t10, rfl⟩ hj1 (by omega) rfl (by decide) (by decide) fun h₁₁ t₁₁ e' x' ff' => ?_)
      refine ex_note (s := { s with heap := h₁₁, toks := t₁₁ }) hfr ff' rfl hFL' x' fun h₁₂ x₁₂ f₁₂ => ex_back (s := { s with heap := h₁₂, toks := t₁₁ }) f₁₂ x₁₂ fun h₁₃ x₁₃ f₁₃ => ?_
      exact h7 (s₁ := { s with heap := h₁₃, toks := t₁₁ }) hfr hFL ho hFs (B.kf F₁₀.base) nam nau hne D10 hj1 hsz hsa hml x₁₃ fun h'' tk'' D'' => ⟨i + 1, j + 1, _, h'', tk'', rfl, by rw [p'.fin hj1] at D''; exact D''⟩
end
end Mine
end

section
set_option maxRecDepth 100000
namespace Mine
open PySem PySem.W PyProof.Rows PySem.Calls PySem.SeqAt

theorem Kf.sub {Fs Gs : List Addr} {h h' : Heap} (k : Kf Fs h h') (s : ∀ x ∈ Fs, x ∈ Gs) : Kf Gs h h' := fun b o e => (k b o e).imp id fun ⟨a, r⟩ => ⟨s b a, r⟩
theorem FS.sub {Fs Gs : List Addr} {h₀ : Heap} {env : Env} {h : Heap} {m cm : Str → Option Value} (F : FS Fs h₀ env h m cm) (s : ∀ x ∈ Fs, x ∈ Gs) : FS Gs h₀ env h m cm := ⟨F.ns, F.base.sub s, F.above, F.cl⟩
section
variable {prog : Program} {w : World} {A : Around} {fa : Nat → Addr} {Fs Y : List Addr} {o : Bool} {Es As : List (List Nat)} {s : Shared} {outer : List Env} {E : Value → Shared → Prop}
theorem c_diff {k0 : Nat} {v₁ v₂ : Value} {Q : Value → Shared → Prop} (hA : Ok (k0 + 1) A) (hfr : A.frames = some outer) (hFL : ∀ x ∈ outer.filterMap (·.frame), x ∈ Fs) (ho : s.heap.FunFrames default outer) (hFs : ∀ x ∈ Fs, ∃ mf, s.heap.Ns x mf) (B : Bs fa s.heap) (al : Al Y s.heap)
    (r1 : LsR (TxR o) Es Y s.heap v₁) (r2 : LsR (TxR o) As Y s.heap v₂) (hE : Es.Pairwise (· < ·)) (hAs : As.Pairwise (· < ·)) (hsub : ∀ x ∈ As, x ∈ Es) (hne : 0 < Es.length) (hsz : Es.length ≤ 1000) (hsa : As.length ≤ 1000)
    (k : ∀ v h' tk, Kf Fs s.heap h' → TpR (LsR (TxR o)) (LsR (TxR o)) (Es.filter (fun x => decide (x ∉ As)), []) Y h' v → Q v { s with heap := h', toks := tk }) :
    wpAny (model prog w) A (call (.ref (fa 7)) [v₁, v₂]) Q E s := by
  have gt := gr_tx o
  obtain ⟨ob, nm, q, doc, pm, an, cd, ct, e, d, c⟩ := B.fn 7 (by decide)
  refine wpAny_call (codeAny_call_cells (fd := ffd 7 nm q .none doc pm an cd ct) (vals := [v₁, v₂]) (binds := [(Str.ofString "expected", v₁), (Str.ofString "actual", v₂)]) (by have := hA.depth; rw [recursionLimit]; omega) e d B.lim c rfl rfl rfl ?_ (fun s₁ Xc => ?_) rfl rfl rfl)
  · intro x hx
    rcases List.mem_cons.mp hx with rfl | hx
    · exact .inl rfl
    · rw [List.mem_singleton.mp hx]; exact .inl rfl
  obtain ⟨h₁, tk₁, rfl, _⟩ := Xc.done
  have hfr' : (A.deeper (fenv 7 q cd s.heap.objs.size (fa 7))).frames = some (fenv 7 q cd s.heap.objs.size (fa 7) :: outer) := Around.frames_deeper hfr
  have hA' : Ok k0 (A.deeper (fenv 7 q cd s.heap.objs.size (fa 7))) := hA.deeper _
  have kp₁ : Kp s.heap h₁ := Xc.toInCall.keep
  have F₁ : FS Fs s.heap (fenv 7 q cd s.heap.objs.size (fa 7)) h₁ (bindL (fenv 7 q cd s.heap.objs.size (fa 7)).kindOf [(Str.ofString "expected", v₁), (Str.ofString "actual", v₂)] fun _ => none) (bindC (fenv 7 q cd s.heap.objs.size (fa 7)).kindOf [(Str.ofString "expected", v₁), (Str.ofString "actual", v₂)] fun _ => none) :=
    ⟨Xc.toInCall.ns, Kp.kf kp₁, Xc.toInCall.fresh, ⟨Xc.cell, Xc.apart, Xc.above⟩⟩
  refine wpAny_execs_cons (wpAny_Assign_two (wpAny_Constant_int (wpAny_assign_Name (st_name (s := { s with heap := h₁, toks := _ }) F₁ (.loc rfl) rfl fun h₂ t₂ F₂ sx₂ => wpAny_assign_Name (st_name (s := { s with heap := h₂, toks := t₂ }) F₂ (.loc rfl) rfl fun h₃ t₃ F₃ sx₃ => ?_)))))
  have sx13 : Sx [] [] (fenv 7 q cd s.heap.objs.size (fa 7)) h₁ h₃ := (sx₂ []).trans (sx₃ [])
  have al₃ : Al Y h₃ := sx13.al (al.up kp₁)
  have lw3 : Lw Y s.heap Y h₃ := ⟨fun b o hb f e => sx13.keep b o (by simp) f (kp₁ b o e), fun _ h => .inl h⟩
  have r13 : LsR (TxR o) Es Y h₃ v₁ := (gr_ls gt _).up lw3 r1
  have r23 : LsR (TxR o) As Y h₃ v₂ := (gr_ls gt _).up lw3 r2
  refine wpAny_execs_cons (as_new (s := { s with heap := h₃, toks := t₃ }) (R := TxR o) F₃ al₃ (nw_nil gt) gt (fun v => .loc rfl) rfl rfl ?_)
  rintro am vs₄ h₄ t₄ na₄ aL₄ aC₄ F₄ sx₄ lw₄ al₄ hl₄ hx₄
  cases hx₄
  refine wpAny_execs_cons (as_new (s := { s with heap := h₄, toks := t₄ }) (R := TxR o) F₄ al₄ (nw_nil gt) gt (fun v => .loc rfl) rfl rfl ?_)
  rintro au vs₅ h₅ t₅ na₅ aL₅ aC₅ F₅ sx₅ lw₅ al₅ hl₅ hx₅
  cases hx₅
  have nam : s.heap.get? am = none := kp₁.none ((sx13.live · ·) |> fun hv => by
    cases q : h₁.get? am with
    | none => rfl
    | some o => obtain ⟨o', e'⟩ := sx13.live am o q; rw [na₄] at e'; cases e')
  have hau : h₃.get? au = none := by
    cases q : h₃.get? au with
    | none => rfl
    | some o => obtain ⟨o', e'⟩ := sx₄.live au o q; rw [na₅] at e'; cases e'
  have nau : s.heap.get? au = none := kp₁.none (by
    cases q : h₁.get? au with
    | none => rfl
    | some o => obtain ⟨o', e'⟩ := sx13.live au o q; rw [hau] at e'; cases e')
  have hmu : am ≠ au := by rintro rfl; obtain ⟨n, en⟩ := hl₄; rw [na₅] at en; cases en
  have hl₄' : h₅.PlainList am #[] := plain_keep sx₅ hl₄
  have D₅ : D7 Fs s.heap (fenv 7 q cd s.heap.objs.size (fa 7)) Y am au o Es As 0 0 [] h₅ _ _ :=
    ⟨F₅, al₅, ⟨v₁, rfl, (gr_ls gt _).up lw₅ ((gr_ls gt _).up lw₄ r13)⟩, ⟨v₂, rfl, (gr_ls gt _).up lw₅ ((gr_ls gt _).up lw₄ r23)⟩, ⟨_, rfl⟩, ⟨_, rfl⟩, rfl, ⟨[], hl₄', .nil⟩, rfl, hl₅⟩
  have p₀ : P7 Es As 0 0 [] := ⟨by simp, fun x hx => by simpa using hsub x (by simpa using hx), Nat.zero_le _, Nat.zero_le _, Nat.zero_le _⟩
  refine wpAny_execs_cons (wpAny_While (codeAny_whileLoop (fun n s' => ∃ i j mis m h tk, s' = { s with heap := h, toks := tk } ∧ n = Es.length + 1 - i ∧ P7 Es As i j mis ∧ (j < As.length ∨ (As.length ≤ j ∧ i < Es.length)) ∧ D7 Fs s.heap (fenv 7 q cd s.heap.objs.size (fa 7)) Y am au o Es As i j mis h m _) ?_ (Es.length + 1) ⟨0, 0, [], _, h₅, t₅, rfl, rfl, p₀, ?_, D₅⟩))
  · rintro n s' ⟨i, j, mis, m, h, tk, rfl, rfl, p, hor, D⟩
    refine (tr_val (X := au :: am :: Y) (h := h) (c := true) (R := BoolR true) ev_bool (fun Z h' v r => op_btruthy r) rfl).here (s := { s with heap := h, toks := tk }) D.al fun b h₆ t₆ k₆ rb => ?_
    obtain rfl := rb
    simp only [if_true]
    refine wpAny_execs_cons (wpAny_mono (t7 (s := { s with heap := h₆, toks := t₆ }) hA' hfr' hFL ho hFs B nam nau hmu hE hAs hsz hsa p hor (D.kp k₆)) (fun f s₃ hf => ?_) fun _ _ x => x)
    cases f with
    | next =>
      obtain ⟨i', j', mis', m', h', tk', rfl, h1, h2, p', hj', D'⟩ := hf
      exact wpAny_execs_nil ⟨Es.length + 1 - i', by have := p.hi; omega, i', j', mis', m', h', tk', rfl, rfl, p', .inl hj', D'⟩
    | brk =>
      obtain ⟨i', j', m', h', tk', rfl, D'⟩ := hf
      obtain ⟨us, hl, hx⟩ := D'.ml
      have rm : LsR (TxR o) (Es.filter fun x => decide (x ∉ As)) Y h' (.ref am) := ⟨am, us, rfl, al.not nam, hl, hx.imp fun u d _ _ r => r⟩
      have ru : LsR (TxR o) [] Y h' (.ref au) := ⟨au, [], rfl, al.not nau, D'.ul, .nil⟩
      have alY : Al Y h' := fun a ha => D'.al a (.tail _ (.tail _ ha))
      refine wpAny_execs_cons (wpAny_Return_some (Ev.here (s := { s with heap := h', toks := tk' }) (X := Y) (R := TpR (LsR (TxR o)) (LsR (TxR o)) (Es.filter (fun x => decide (x ∉ As)), [])) ?_ alY fun v h'' tk'' kp r => k v h'' tk'' (D'.F.base.step fun b o _ e => kp b o e) r))
      exact ev_Tuple2 (R := LsR (TxR o)) (S := LsR (TxR o)) (ev_args_cons (ev_name (.loc rfl D'.F.ns D'.mm) (gr_ls gt _) rm rfl (by decide)) (gr_ls gt _) (ev_args_cons (ev_name (.loc rfl D'.F.ns D'.um) (gr_ls gt _) ru rfl (by decide)) (gr_ls gt _) ev_args_nil rfl) rfl) (gr_ls gt) (gr_ls gt)
    | cont => exact hf.elim
    | ret v => exact hf.elim
  · rcases Nat.lt_or_ge 0 As.length with h | h
    · exact .inl h
    · exact .inr ⟨h, hne⟩
end
end Mine
end

section
set_option maxRecDepth 100000
namespace Mine
open PySem PySem.W PyProof.Rows PySem.Calls PySem.SeqAt

abbrev Tx := List Nat
structure Gd (Es : List Tx) (K : List Tx → List Tx) (G : List Tx → Prop) : Prop where
  srt : ∀ S, G S → S.Pairwise (· < ·)
  sub : ∀ S, G S → ∀ x ∈ S, x ∈ Es
  up : ∀ S, G S → ∃ ws, S = ws.map pth ∧ (∀ w ∈ ws, w ∈ W15) ∧ (K S).Perm (dedupL (aboveL ws))
  kG : ∀ S, G S → G (K S)
  cG : ∀ S, G S → G (Es.filter fun x => decide (x ∉ S))
  len : ∀ S, G S → S.length ≤ 60
  eS : Es.Pairwise (· < ·)
  e0 : 0 < Es.length
  e1 : Es.length ≤ 60
def step11 (Es : List Tx) (K : List Tx → List Tx) (sets : List (List Tx)) (k : Nat) : List (List Tx) := match sets[k]? with
  | some S => dedupL (sets ++ [K S, Es.filter fun x => decide (x ∉ S)])
  | none => sets
def sets11 (Es : List Tx) (K : List Tx → List Tx) (first : List Tx) (n : Nat) : List (List Tx) := (List.range n).foldl (step11 Es K) [first]
theorem sets11_succ (Es : List Tx) (K : List Tx → List Tx) (first : List Tx) (n : Nat) : sets11 Es K first (n + 1) = step11 Es K (sets11 Es K first n) n := by
  unfold sets11; rw [List.range_succ, List.foldl_append]; rfl
theorem step11_len (Es : List Tx) (K : List Tx → List Tx) (sets : List (List Tx)) (k : Nat) : (step11 Es K sets k).length ≤ sets.length + 2 := by
  unfold step11
  split
  · refine Nat.le_trans (dedupL_len _) ?_; simp
  · omega
theorem sets11_len (Es : List Tx) (K : List Tx → List Tx) (first : List Tx) (n : Nat) : (sets11 Es K first n).length ≤ 1 + 2 * n := by
  induction n with
  | zero => simp [sets11]
  | succ n ih => rw [sets11_succ]; have := step11_len Es K (sets11 Es K first n) n; omega
theorem sets11_good {Es : List Tx} {K : List Tx → List Tx} {G : List Tx → Prop} (g : Gd Es K G) {first : List Tx} (hf : G first) (n : Nat) : ∀ S ∈ sets11 Es K first n, G S := by
  induction n with
  | zero => intro S hS; simp [sets11] at hS; rw [hS]; exact hf
  | succ n ih =>
    rw [sets11_succ]
    intro S hS
    unfold step11 at hS
    split at hS
    · rename_i T hT
      have hGT := ih T (List.mem_of_getElem? hT)
      rw [mem_dedupL, List.mem_append] at hS
      rcases hS with hS | hS
      · exact ih S hS
      · rcases List.mem_cons.mp hS with rfl | hS
        · exact g.kG T hGT
        · rw [List.mem_singleton.mp hS]; exact g.cG T hGT
    · exact ih S hS

section
variable {prog : Program} {w : World} {A : Around} {fa : Nat → Addr} {Fs Y : List Addr} {o : Bool} {Es : List Tx} {K : List Tx → List Tx} {G : List Tx → Prop} {s : Shared} {outer : List Env} {E : Value → Shared → Prop}
theorem c_allsets {k0 : Nat} {v₁ v₂ : Value} {first : List Tx} {Q : Value → Shared → Prop} (hA : Ok (k0 + 3) A) (hfr : A.frames = some outer) (hFL : ∀ x ∈ outer.filterMap (·.frame), x ∈ Fs) (ho : s.heap.FunFrames default outer) (hFs : ∀ x ∈ Fs, ∃ mf, s.heap.Ns x mf) (B : Bs fa s.heap) (al : Al Y s.heap)
    (g : Gd Es K G) (hG : G first) (r1 : LsR (TxR o) first Y s.heap v₁) (r2 : LsR (TxR o) Es Y s.heap v₂)
    (k : ∀ v h' tk, Kf Fs s.heap h' → LsR (LsR (TxR o)) (sets11 Es K first 12) Y h' v → Q v { s with heap := h', toks := tk }) :
    wpAny (model prog w) A (call (.ref (fa 11)) [v₁, v₂]) Q E s := by
  have gt := gr_tx o
  have gl : ∀ d, GR (LsR (TxR o) d) := gr_ls gt
  have gll : ∀ d, GR (LsR (LsR (TxR o)) d) := gr_ls gl
  have Er : EqR (LsR (TxR o)) 1 := eqr_ls (eqr_tx o)
  have sl : ∀ {n : Nat}, n ≤ 1000000 → n ≤ sizeLine := fun h => by rw [sizeLine_eq]; omega
  obtain ⟨ob, nm, q, doc, pm, an, cd, ct, e, d, c⟩ := B.fn 11 (by decide)
  refine wpAny_call (codeAny_call_cells (fd := ffd 11 nm q .none doc pm an cd ct) (vals := [v₁, v₂]) (binds := [(Str.ofString "first", v₁), (Str.ofString "places", v₂)]) (by have := hA.depth; rw [recursionLimit]; omega) e d B.lim c rfl rfl rfl ?_ (fun s₁ Xc => ?_) rfl rfl rfl)
  · intro x hx
    rcases List.mem_cons.mp hx with rfl | hx
    · exact .inl rfl
    · rw [List.mem_singleton.mp hx]; exact .inl rfl
  obtain ⟨h₁, tk₁, rfl, _⟩ := Xc.done
  have hfr' : (A.deeper (fenv 11 q cd s.heap.objs.size (fa 11))).frames = some (fenv 11 q cd s.heap.objs.size (fa 11) :: outer) := Around.frames_deeper hfr
  have hA' : Ok (k0 + 2) (A.deeper (fenv 11 q cd s.heap.objs.size (fa 11))) := hA.deeper _
  have kp₁ : Kp s.heap h₁ := Xc.toInCall.keep
  have F₁ : FS Fs s.heap (fenv 11 q cd s.heap.objs.size (fa 11)) h₁ (bindL (fenv 11 q cd s.heap.objs.size (fa 11)).kindOf [(Str.ofString "first", v₁), (Str.ofString "places", v₂)] fun _ => none) (bindC (fenv 11 q cd s.heap.objs.size (fa 11)).kindOf [(Str.ofString "first", v₁), (Str.ofString "places", v₂)] fun _ => none) :=
    ⟨Xc.toInCall.ns, Kp.kf kp₁, Xc.toInCall.fresh, ⟨Xc.cell, Xc.apart, Xc.above⟩⟩
  have r11 : LsR (TxR o) first Y h₁ v₁ := (gl _).up (Le.of_kp kp₁).lw r1
  have r21 : LsR (TxR o) Es Y h₁ v₂ := (gl _).up (Le.of_kp kp₁).lw r2
  have alF : Al Fs s.heap := fun x hx => by obtain ⟨mf, o', _, _, e', _⟩ := hFs x hx; exact ⟨o', e'⟩
  refine wpAny_execs_cons (as_name (s := { s with heap := h₁, toks := tk₁ }) (R := LsR (LsR (TxR o)) [first]) F₁ (al.up kp₁) (ev_List (R := LsR (TxR o)) (ev_args_cons (ev_name (.loc rfl F₁.ns rfl) (gl _) r11 rfl (by decide)) (gl _) ev_args_nil rfl) gl (fun Z h' vs r => by
    obtain ⟨v, us, rfl, r, rfl⟩ := r; exact .one r) (sl (by simp))) (gll _) (fun v => .loc rfl) rfl rfl ?_)
  intro vS h₂ t₂ F₂ sx₂ al₂ rS
  have r22 : LsR (TxR o) Es Y h₂ v₂ := (gl _).up (sx₂.up (by simp)) r21
  have B2 : Bs fa h₂ := B.kf F₂.base
  have alF2 : Al Fs h₂ := fun x hx => by obtain ⟨o', e'⟩ := alF x hx; exact F₂.base.live e'
  refine wpAny_execs_cons (st_for (s := { s with heap := h₂, toks := t₂ }) (Ms := []) (R := fun j : Nat => IntR j) (ds := List.range 12)
    (fun I i h m cm => ∃ v, m (Str.ofString "sets") = some v ∧ LsR (LsR (TxR o)) (sets11 Es K first i) (I :: Y) h v ∧ m (Str.ofString "places") = some v₂ ∧ LsR (TxR o) Es (I :: Y) h v₂)
    (fun v m => upd m (Str.ofString "k") v) (fun v cm => cm) F₂ al₂ alF2 (by simp)
    (ev_callT (B2.b (v := .type "range") (by decide) rfl rfl rfl) (ev_args_cons (R := IntR (12 : Nat)) ev_int (gr_int _) ev_args_nil rfl) (fun Z h' vs l r => by
      obtain ⟨v, us, rfl, r, rfl⟩ := r
      exact b_range r) rfl (by decide) rfl rfl) (fun Z h' v' le' r => ev_iter_range hA'.handled (by omega) r) (fun j => gr_int j) (fun _ _ _ => .loc rfl) rfl ?_ ?_ ?_ ?_ (fun _ => rfl))
  · rintro I i h h' m cm nI ⟨v, hm, hr, hm2, hr2⟩ kb lw
    exact ⟨v, hm, (gll _).up (lw _ (List.mem_cons_self)) hr, hm2, (gl _).up (lw _ (List.mem_cons_self)) hr2⟩
  · intro I h' nI kp
    exact ⟨vS, rfl, (gll _).up (Le.add kp nI).lw rS, rfl, (gl _).up (Le.add kp nI).lw r22⟩
  · rintro I i d u h tk m₁ cm₁ nI hd sx alI ru FF ⟨v, hm, hr, hmp, hrp⟩
    have hdi : d = i := by
      obtain ⟨h1, h2⟩ := List.getElem?_eq_some_iff.mp hd; simpa using h2.symm
    subst hdi
    have hd12 : d < 12 := by obtain ⟨h1, h2⟩ := List.getElem?_eq_some_iff.mp hd; simpa using h1
    have hslen := sets11_len Es K first d
    have hm' : upd m₁ (Str.ofString "k") u (Str.ofString "sets") = some v := hm
    have hmp' : upd m₁ (Str.ofString "k") u (Str.ofString "places") = some v₂ := hmp
    have Bh : Bs fa h := B.kf FF.base
    refine wpAny_execs_cons (wpAny_If ((tr_Cmp (X := I :: Y) (h := h) (c := decide ((d : Int) < ((sets11 Es K first d).length : Nat))) (ev_name (.loc rfl FF.ns rfl) (gr_int _) ru rfl (by decide)) (gr_int _)
      (ev_callB (Bh.b (v := .builtin "len") (by decide) rfl rfl rfl) (ev_args_cons (ev_name (.loc rfl FF.ns hm') (gll _) hr rfl (by decide)) (gll _) ev_args_nil rfl) (fun Z h' vs l r => by
        obtain ⟨v, us, rfl, r, rfl⟩ := r
        exact b_len gl r (sl (by omega))) rfl (by decide) rfl rfl) (fun Z h' a b l ra rb => op_ilt ra rb) rfl).here (s := { s with heap := h, toks := tk }) alI fun b h₃ t₃ k₃ rb => ?_))
    obtain rfl := rb
    have F₃ := FF.kp k₃
    have hr3 : LsR (LsR (TxR o)) (sets11 Es K first d) (I :: Y) h₃ v := (gll _).up (Le.of_kp k₃).lw hr
    have hrp3 : LsR (TxR o) Es (I :: Y) h₃ v₂ := (gl _).up (Le.of_kp k₃).lw hrp
    by_cases hlt : d < (sets11 Es K first d).length
    · rw [decide_eq_true (by omega)]
      have hSget : (sets11 Es K first d)[d]? = some (sets11 Es K first d)[d] := List.getElem?_eq_getElem hlt
      have hGS : G (sets11 Es K first d)[d] := sets11_good g hG d _ (List.getElem_mem hlt)
      generalize hS : (sets11 Es K first d)[d] = S at hSget hGS
      have B3 : Bs fa h₃ := B.kf F₃.base
      obtain ⟨o7, nm7, q7, doc7, pm7, an7, cd7, ct7, e7, d7, c7⟩ := B3.fn 7 (by decide)
      have al3 := alI.up k₃
      refine wpAny_execs_cons (Assign_Tuple (Call_ (see_load (s := { s with heap := h₃, toks := t₃ }) (B3.f 7 (by decide) rfl rfl) rfl (by decide) (callWith_def d7 (Ev.here (s := { s with heap := h₃, toks := t₃ }) (X := I :: Y) (R := Ls2 [LsR (TxR o) Es, LsR (TxR o) S])
        (ev_args_cons (ev_name (.loc rfl F₃.ns hmp') (gl _) hrp3 rfl (by decide)) (gl _) (ev_args_cons (ev_Sub (ev_name (.loc rfl F₃.ns hm') (gll _) hr3 rfl (by decide)) (gll _) (ev_name (.loc rfl F₃.ns rfl) (gr_int _) ru rfl (by decide)) fun Z h' a b l ra rb => ev_item_list ra rb (by omega) (by omega) (by simpa using hSget) gl (fun _ _ => rfl)) (gl _) ev_args_nil rfl) rfl) al3 fun vs h₄ t₄ k₄ r => ?_) rfl))) rfl rfl)
      obtain ⟨w₁, us, rfl, rw₁, w₂, us2, rfl, rw₂, rfl⟩ := r
      have F₄ := F₃.kp k₄
      refine ⟨k₄ _ _ e7, c_diff (s := { s with heap := h₄, toks := t₄ }) (Fs := s.heap.objs.size :: Fs) (Y := I :: Y) (Es := Es) (As := S) hA' hfr' (fun x hx => ?_) (ff_of F₄ ho rfl rfl) (fun x hx => ?_) (B.kf F₄.base) (al3.up k₄) rw₁ rw₂ g.eS (g.srt S hGS) (g.sub S hGS) g.e0 (by have := g.e1; omega) (by have := g.len S hGS; omega) fun vT h₅ t₅ kf₅ rT => ?_⟩
      · rcases List.mem_cons.mp (show x ∈ s.heap.objs.size :: outer.filterMap (·.frame) from hx) with rfl | hx
        · exact .head _
        · exact .tail _ (hFL x hx)
      · rcases List.mem_cons.mp hx with rfl | hx
        · exact ⟨_, F₄.ns⟩
        · obtain ⟨mf, hn⟩ := hFs x hx
          exact ⟨mf, ns_kf F₄.base hn⟩
      have nf := nf_of (outer := outer) F₄ hFs
      have F₅ := F₄.kf kf₅
      have sx5 : Sx Fs [] (fenv 11 q cd s.heap.objs.size (fa 11)) h₄ h₅ := kf_sx kf₅ nf
      have al5 : Al (I :: Y) h₅ := sx5.al (al3.up k₄)
      obtain ⟨aT, u₁, u₂, rfl, nT, ht, ru₁, ru₂⟩ := rT
      refine assign_Tuple_tuple (s := { s with heap := h₅, toks := t₅ }) hA'.handled ht rfl rfl fun h₆ he₆ => ?_
      have k₆ : Kp h₅ h₆ := fun b o e => he₆ b o (Nat.ne_of_lt (Heap.lt_size e)) e
      refine wpAny_bind (wpAny_holding (wpAny_assign_Name (st_name (s := { s with heap := h₆, toks := t₅ }) (F₅.kp k₆) (.loc rfl) rfl fun h₇ t₇ F₇ sx₇ => ?_)))
      refine wpAny_bind (wpAny_holding (wpAny_assign_Name (st_name (s := { s with heap := h₇, toks := t₇ }) F₇ (.loc rfl) rfl fun h₈ t₈ F₈ sx₈ => ?_)))
      refine wpAny_pure ?_
      have sx38 : Sx Fs [] (fenv 11 q cd s.heap.objs.size (fa 11)) h₃ h₈ := (Sx.of_kp k₄).trans (sx5.trans ((Sx.of_kp k₆).trans ((sx₇ []).fs.trans (sx₈ []).fs)))
      have lw38 : Lw (I :: Y) h₃ (I :: Y) h₈ := sx38.up (by simp)
      have lw58 : Lw (I :: Y) h₅ (I :: Y) h₈ := ((Sx.of_kp (Fs := []) (M := []) (env := fenv 11 q cd s.heap.objs.size (fa 11)) k₆).trans ((sx₇ []).trans (sx₈ []))).up (by simp)
      have al8 : Al (I :: Y) h₈ := sx38.al al3
      have hr8 := (gll _).up lw38 hr3
      have ru8 : LsR (TxR o) (Es.filter fun x => decide (x ∉ S)) (I :: Y) h₈ u₁ := (gl _).up lw58 ru₁
      have rs8 : LsR (TxR o) [] (I :: Y) h₈ u₂ := (gl _).up lw58 ru₂
      have B8 : Bs fa h₈ := B.kf F₈.base
      obtain ⟨ws, hws, hW, hp⟩ := g.up S hGS
      have hwl : ws.length ≤ 60 := by have := g.len S hGS; rw [hws, List.length_map] at this; exact this
      refine wpAny_execs_cons (as_name (s := { s with heap := h₈, toks := t₈ }) (R := LsR (LsR (TxR o)) (dedupL (sets11 Es K first d ++ [K S, Es.filter fun x => decide (x ∉ S)]))) F₈ al8
        (ev_callD 4 B8 (by decide) (by decide) (ev_args_cons (R := LsR (LsR (TxR o)) (sets11 Es K first d ++ [K S, Es.filter fun x => decide (x ∉ S)]))
          (ev_BinOp (ev_name (.loc rfl F₈.ns hm') (gll _) hr8 rfl (by decide)) (gll _)
            (ev_List (R := LsR (TxR o)) (ds := [K S, Es.filter fun x => decide (x ∉ S)]) (ev_args_cons (R := LsR (TxR o) (K S)) (ev_callD 10 B8 (by decide) (by decide) (ev_args_cons (ev_Sub (ev_name (.loc rfl F₈.ns hm') (gll _) hr8 rfl (by decide)) (gll _) (ev_name (.loc rfl F₈.ns rfl) (gr_int _) ru rfl (by decide)) fun Z h' a b l ra rb => ev_item_list ra rb (by omega) (by omega) (by simpa using hSget) gl (fun _ _ => rfl)) (gl _) ev_args_nil rfl)
              (fun Z h' vs l B' r => by
                obtain ⟨v, us, rfl, r, rfl⟩ := r
                rw [hws] at r
                exact c_above hA' B' hW (by omega) hp (g.srt _ (g.kG S hGS)) (by have := g.len _ (g.kG S hGS); omega) r) rfl rfl rfl (by decide) rfl) (gl _)
              (ev_args_cons (R := LsR (TxR o) (Es.filter fun x => decide (x ∉ S))) (ev_IfExp (b := true) (tr_Cmp (c := true) (ev_name (.loc rfl F₈.ns rfl) (gl _) rs8 rfl (by decide)) (gl _) (ev_List (R := TxR o) (ds := []) ev_args_nil gt (fun Z h' vs r => by rw [show vs = [] from r]; exact .nil) (sl (by simp))) (fun Z h' a b l ra rb => op_leq (eqr_tx o) gt (hA'.cline _ (by omega)) ra rb) rfl)
                (fun _ => ev_name (.loc rfl F₈.ns rfl) (gl _) ru8 rfl (by decide)) (fun q => by cases q)) (gl _) ev_args_nil rfl) rfl) gl
              (fun Z h' vs r => by obtain ⟨v, us, rfl, r, v2, us2, rfl, r2, rfl⟩ := r; exact .cons r (.one r2)) (sl (by simp)))
            (fun Z h' a b l ra rb => op_ladd gl ra rb (sl (by simp; omega)))) (gll _) ev_args_nil rfl) (fun Z h' vs l B' r => by
              obtain ⟨v, us, rfl, r, rfl⟩ := r
              exact c_dedup hA' B'.lim (B'.fn 4 (by decide)) gl Er (by omega) (by simp; omega) r) rfl rfl rfl (by decide) rfl) (gll _) (fun v => .loc rfl) rfl rfl ?_)
      intro vN h₉ t₉ F₉ sx₉ al₉ rN
      refine wpAny_execs_nil (wpAny_execs_nil ⟨rfl, h₉, t₉, _, _, rfl, F₉, (Sx.of_kp k₃).trans (sx38.trans sx₉.fs), vN, rfl, ?_, hmp', (gl _).up (sx₉.up (by simp)) ((gl _).up lw38 hrp3)⟩)
      rw [sets11_succ, step11, hSget]
      exact rN
    · rw [decide_eq_false (by omega)]
      refine wpAny_execs_nil (wpAny_execs_nil ⟨rfl, h₃, t₃, _, _, rfl, F₃, Sx.of_kp k₃, v, hm', ?_, hmp', hrp3⟩)
      rw [sets11_succ, step11, List.getElem?_eq_none (by omega)]
      exact hr3
  · rintro I h₃ t₃ m₁ cm₁ nI F₃ sx ⟨v, hm, hr, _, _⟩
    rw [List.length_range] at hr
    have rY : LsR (LsR (TxR o)) (sets11 Es K first 12) Y h₃ v := (gll _).up (Lw.sub fun b hb => by simp [hb]) hr
    refine wpAny_execs_cons (wpAny_Return_some (see_load (s := { s with heap := h₃, toks := t₃ }) (.loc rfl F₃.ns hm) rfl (by decide) ?_))
    exact k v h₃ t₃ F₃.base rY
end
end Mine
end

section
namespace Mine
open PySem PySem.W PyProof.Rows PySem.Calls PySem.SeqAt
set_option maxRecDepth 100000

section
variable {prog : Program} {w : World} {A : Around} {X : List Addr} {h : Heap} {a b : Value} {env : Env} {pos : Pos}
theorem b_index {α : Type} [DecidableEq α] {R : α → Pr} {n : Nat} {d : α} {ds : List α} (Er : EqR R n) (g : ∀ d, GR (R d)) (hu : A.units + (n + 1) < cLine) (ra : LsR R ds X h a) (rb : R d X h b) (hmem : d ∈ ds) (hsz : ds.length ≤ 1000000) :
    Ev prog w A X h (call (.builtin "list.index") [a, b]) (IntR (ds.idxOf d : Nat)) := fun Y s al le => by
  have rb' := (g d).up le.lw rb
  obtain ⟨x, vs, rfl, _, ⟨m, hl⟩, hx⟩ := (gr_ls g ds).up le.lw ra
  have e1 := hx.length
  have hj : ds.idxOf d < ds.length := List.idxOf_lt_length_iff.mpr hmem
  have hjd : ds[ds.idxOf d] = d := List.getElem_idxOf hj
  have hno : ∀ m (hm : m < ds.length), m < ds.idxOf d → ds[m] ≠ d := fun m hm hlt q => by
    have := List.not_of_lt_findIdx (p := (· == d)) (xs := ds) (i := m) hlt
    simp [q] at this
  have hitE : ∀ m (hm : m < vs.toArray.size), hit R d Y s.heap vs.toArray[m] = decide (ds[m]'(by simpa [e1] using hm) = d) := fun m hm => by
    have hm' : m < vs.length := by simpa using hm
    obtain ⟨d', hd', r'⟩ := hx.get (List.getElem?_eq_getElem hm')
    rw [List.getElem?_eq_getElem (by omega)] at hd'
    injection hd' with hd'
    rw [List.getElem_toArray, hit_of Er r', ← hd']
  refine call_meets PySem.F.slot_list_index ⟨_, hl, rfl⟩ PySem.F.entry_list_index (PySem.F.args_list_index_2 _ _) (list_indexAt x vs.toArray m none #[] b (hit R d Y s.heap) (ds.idxOf d) (by simp; omega) (by omega) (by rw [hitE]; simpa using hjd) (fun m hm hlt => by rw [hitE]; simpa using hno m _ hlt)) ⟨hl, fun y hy => ?_, _, _, rfl, Kp.refl _, _, rfl⟩
  obtain ⟨e', _, re⟩ := hx.mem (by simpa using hy)
  rw [hit_of Er re]
  exact Er.eq (by simp; omega) re rb'

theorem op_tp0 {value slice : Expr} {α β : Type} {R : α → Pr} {S : β → Pr} {p : α × β} (g : ∀ d, GR (R d)) (g' : ∀ d, GR (S d)) (ra : TpR R S p X h a) (rb : IntR 0 X h b)
    (hs : ∀ l u, subscripted slice false (.ref l) (.int 0 u) = operate [.ref l, .int 0 u] (getItem (.ref l) (.int 0 u))) : Ev prog w A X h (subscriptTail value slice a b) (R p.1) := fun Y s al le => by
  obtain ⟨t, u₁, u₂, rfl, _, ht, r1, r2⟩ := (gr_tp g g' p).up le.lw ra
  obtain ⟨u, rfl⟩ := rb
  exact tail_any ht.typeIs PyProof.Rows.slot_tuple_getitem.lookup (getItem_tuple ht (by decide) (by decide) (j := 0) rfl rfl ⟨s.heap, s.toks, rfl, Kp.refl _, r1⟩) (hs t u)
theorem op_tp1 {value slice : Expr} {α β : Type} {R : α → Pr} {S : β → Pr} {p : α × β} (g : ∀ d, GR (R d)) (g' : ∀ d, GR (S d)) (ra : TpR R S p X h a) (rb : IntR 1 X h b)
    (hs : ∀ l u, subscripted slice false (.ref l) (.int 1 u) = operate [.ref l, .int 1 u] (getItem (.ref l) (.int 1 u))) : Ev prog w A X h (subscriptTail value slice a b) (S p.2) := fun Y s al le => by
  obtain ⟨t, u₁, u₂, rfl, _, ht, r1, r2⟩ := (gr_tp g g' p).up le.lw ra
  obtain ⟨u, rfl⟩ := rb
  exact tail_any ht.typeIs PyProof.Rows.slot_tuple_getitem.lookup (getItem_tuple ht (by decide) (by decide) (j := 1) rfl rfl ⟨s.heap, s.toks, rfl, Kp.refl _, r2⟩) (hs t u)

/-! and, or -/
theorem tr_and {e₁ e₂ : Expr} {b₁ b₂ : Bool} {whole : Sem Value} (h1 : Ev prog w A X h (isTrue e₁ env (eval e₁ env)) (IsB b₁)) (h2 : b₁ = true → Ev prog w A X h (isTrue e₂ env (eval e₂ env)) (IsB b₂)) :
    Ev prog w A X h (isTrue (.BoolOp .And [e₁, e₂] pos) env whole) (IsB (b₁ && b₂)) := fun Y s al le =>
  isTrue_and (h1.use al le fun c h₁ t₁ k₁ r => by
    obtain rfl := r
    cases c with
    | false => exact ⟨h₁, t₁, rfl, k₁, rfl⟩
    | true =>
      refine isTrue_and ((h2 rfl).use (s := { s with heap := h₁, toks := t₁ }) (al.up k₁) (le.step k₁) fun c h₂ t₂ k₂ r => ?_)
      obtain rfl := r
      cases c with
      | false => exact ⟨h₂, t₂, rfl, k₁.trans k₂, rfl⟩
      | true => exact isTrue_and_nil ⟨h₂, t₂, rfl, k₁.trans k₂, rfl⟩)
theorem tr_or {e₁ e₂ : Expr} {b₁ b₂ : Bool} {whole : Sem Value} (h1 : Ev prog w A X h (isTrue e₁ env (eval e₁ env)) (IsB b₁)) (h2 : b₁ = false → Ev prog w A X h (isTrue e₂ env (eval e₂ env)) (IsB b₂)) :
    Ev prog w A X h (isTrue (.BoolOp .Or [e₁, e₂] pos) env whole) (IsB (b₁ || b₂)) := fun Y s al le =>
  isTrue_or (h1.use al le fun c h₁ t₁ k₁ r => by
    obtain rfl := r
    cases c with
    | true => exact ⟨h₁, t₁, rfl, k₁, rfl⟩
    | false =>
      refine isTrue_or ((h2 rfl).use (s := { s with heap := h₁, toks := t₁ }) (al.up k₁) (le.step k₁) fun c h₂ t₂ k₂ r => ?_)
      obtain rfl := r
      cases c with
      | true => exact ⟨h₂, t₂, rfl, k₁.trans k₂, rfl⟩
      | false => exact isTrue_or_nil ⟨h₂, t₂, rfl, k₁.trans k₂, rfl⟩)
theorem ev_and {e₁ e₂ : Expr} {b₁ b₂ : Bool} (h1 : Ev prog w A X h (eval e₁ env) (BoolR b₁)) (h2 : b₁ = true → Ev prog w A X h (eval e₂ env) (BoolR b₂)) :
    Ev prog w A X h (eval (.BoolOp .And [e₁, e₂] pos) env) (BoolR (b₁ && b₂)) := fun Y s al le =>
  BoolOp_and (h1.use al le fun v h₁ t₁ k₁ r => by
    obtain rfl := r
    refine wpAny_truthy_bool ?_
    cases b₁ with
    | false => exact ⟨h₁, t₁, rfl, k₁, rfl⟩
    | true =>
      refine BoolOp_one ((h2 rfl).use (s := { s with heap := h₁, toks := t₁ }) (al.up k₁) (le.step k₁) fun v h₂ t₂ k₂ r => ⟨h₂, t₂, rfl, k₁.trans k₂, r⟩))
end
end Mine
end

section
set_option maxRecDepth 100000
set_option maxHeartbeats 4000000
namespace Mine
open PySem PySem.W PyProof.Rows PySem.Calls PySem.SeqAt

def figs (x : Int) : List Int := [x.fmod 3, (x.fdiv 3).fmod 3, (x.fdiv 9).fmod 3, 0]
def ab (d : Int) : Nat := if d = 1 then 97 else 98
def wayOf (x : Int) : List Nat := ((figs x).take ((figs x).idxOf 0)).map ab
def bitK (x : Int) (k : Nat) : Bool := Builtin.bitAnd ((x.fdiv 27).fdiv (2 ^ k)) 1 != 0
def marksOf (x : Int) : List (List Nat) := ((List.range ((wayOf x).length + 1)).filter (bitK x)).map fun k => (wayOf x).take k
def waysL (ns : List Int) : List (List Nat) := [] :: ns.map wayOf
def marksL (ns : List Int) : List (List Nat) := ns.flatMap marksOf

theorem fm3 (x : Int) : x.fmod 3 = 0 ∨ x.fmod 3 = 1 ∨ x.fmod 3 = 2 := by
  rw [Int.fmod_eq_emod_of_nonneg x (by decide)]; omega
theorem fig_cases (a b c : Int) (ha : a = 0 ∨ a = 1 ∨ a = 2) (hb : b = 0 ∨ b = 1 ∨ b = 2) (hc : c = 0 ∨ c = 1 ∨ c = 2) :
    (([a, b, c, 0] : List Int).take ([a, b, c, 0].idxOf 0)).map ab ∈ W15 ∧ ∀ d ∈ ([a, b, c, 0] : List Int).take ([a, b, c, 0].idxOf 0), d = 1 ∨ d = 2 := by
  rcases ha with rfl | rfl | rfl <;> rcases hb with rfl | rfl | rfl <;> rcases hc with rfl | rfl | rfl <;> decide
theorem way15 (x : Int) : wayOf x ∈ W15 := (fig_cases _ _ _ (fm3 _) (fm3 _) (fm3 _)).1
theorem fig12 (x : Int) : ∀ d ∈ (figs x).take ((figs x).idxOf 0), d = 1 ∨ d = 2 := (fig_cases _ _ _ (fm3 _) (fm3 _) (fm3 _)).2
theorem join_one : ∀ wd ∈ W15, Txt.join ⟨([] : List Nat).toArray⟩ ((wd.map fun c => [c]).map fun p => ⟨p.toArray⟩) = ⟨wd.toArray⟩ := by decide
theorem join_oneN : ∀ wd ∈ W15, ((wd.map fun c => [c]).map (·.length)).sum + (wd.map fun c => [c]).length * ([] : List Nat).length ≤ 16777216 := by decide
theorem waysL_take {ns : List Int} {i : Nat} {d : Int} (e : ns[i]? = some d) : waysL (ns.take (i + 1)) = waysL (ns.take i) ++ [wayOf d] := by
  unfold waysL; rw [List.take_add_one, e]; simp
theorem marksL_take {ns : List Int} {i : Nat} {d : Int} (e : ns[i]? = some d) : marksL (ns.take (i + 1)) = marksL (ns.take i) ++ marksOf d := by
  unfold marksL; rw [List.take_add_one, e]; simp
theorem marksOf_len (x : Int) : (marksOf x).length ≤ 4 := by
  have := w15_len _ (way15 x)
  have h1 : ((List.range ((wayOf x).length + 1)).filter (bitK x)).length ≤ _ := List.length_filter_le _ _
  rw [List.length_range] at h1
  simp only [marksOf, List.length_map]; omega
theorem marksL_len (ns : List Int) : (marksL ns).length ≤ 4 * ns.length := by
  induction ns with
  | nil => simp [marksL]
  | cons x ns ih =>
    have := marksOf_len x
    simp only [marksL, List.flatMap_cons, List.length_append, List.length_cons] at *; omega

section
variable {prog : Program} {w : World} {A : Around} {X : List Addr} {h : Heap} {fa : Nat → Addr} {env : Env}
theorem c_ways {k : Nat} {ns : List Int} {v : Value} (hA : Ok (k + 1) A) (B : Bs fa h) (hlen : ns.length ≤ 1000) (rv : LsR IntR ns X h v) :
    Ev prog w A X h (call (.ref (fa 12)) [v]) (TpR (LsR (TxR false)) (LsR (TxR false)) (waysL ns, marksL ns)) := by
  refine call_fn (k := k) hA B.lim (B.fn 12 (by decide)) (binds := [(Str.ofString "numbers", v)]) (fun _ _ _ _ _ _ _ => rfl) ?_ ?_ rfl rfl rfl
  · intro L x hx; rw [List.mem_singleton.mp hx]; exact .inl rfl
  intro Y s q cd L h₁ tk le al kp₀ F hA'
  have g := gr_tx false
  have sl : ∀ {n : Nat}, n ≤ 1000000 → n ≤ sizeLine := fun h => by rw [sizeLine_eq]; omega
  have rv1 : LsR IntR ns Y h₁ v := (gr_ls gr_int _).up (le.step kp₀).lw rv
  refine wpAny_execs_cons (as_new (s := { s with heap := h₁, toks := tk }) (R := TxR false) (ds := [[]]) F (al.up kp₀) (nw_List (R := TxR false) (ev_args_cons ev_str (gr_tx _ _) ev_args_nil rfl) g (fun Z h' vs r => by
    obtain ⟨v, us, rfl, r, rfl⟩ := r; exact .one r) (sl (by simp))) g (fun v => .loc rfl) rfl rfl ?_)
  rintro a v₁ h₂ t₂ na aL aC F₂ sx₂ lw₂ al₂ hl₂ hx₂
  have rv2 : LsR IntR ns (a :: Y) h₂ v := (gr_ls gr_int _).up lw₂ rv1
  have na0 : s.heap.get? a = none := kp₀.none na
  refine wpAny_execs_cons (as_new (s := { s with heap := h₂, toks := t₂ }) (R := TxR false) F₂ al₂ (nw_nil g) g (fun v => .loc rfl) rfl rfl ?_)
  rintro b v₂ h₃ t₃ nb bL bC F₃ sx₃ lw₃ al₃ hl₃ hx₃
  cases hx₃
  have rv3 : LsR IntR ns (b :: a :: Y) h₃ v := (gr_ls gr_int _).up lw₃ rv2
  have nb0 : s.heap.get? b = none := F₂.base.off nb
  have hab : a ≠ b := by rintro rfl; obtain ⟨n, e⟩ := hl₂; rw [nb] at e; cases e
  have hla3 : h₃.PlainList a v₁.toArray := hl₂.at fun o e => sx₃.ef0 (by simp) aL aC e
  have hxa3 : All2 (fun u d => TxR false d (b :: a :: Y) h₃ u) v₁ [[]] := hx₂.imp fun u d _ _ r => (g d).up lw₃ r
  refine wpAny_execs_cons (st_for (s := { s with heap := h₃, toks := t₃ }) (Ms := [a, b]) (R := IntR) (ds := ns)
    (fun I i h m cm => ∃ vs us, m (Str.ofString "ways") = some (.ref a) ∧ h.PlainList a vs.toArray ∧ All2 (fun u d => TxR false d (I :: b :: a :: Y) h u) vs (waysL (ns.take i)) ∧
      m (Str.ofString "marked") = some (.ref b) ∧ h.PlainList b us.toArray ∧ All2 (fun u d => TxR false d (I :: b :: a :: Y) h u) us (marksL (ns.take i)))
    (fun v m => m) (fun v cm => upd cm (Str.ofString "x") v) F₃ al₃ Al.nil (by simp) (ev_name (.loc rfl F₃.ns rfl) (gr_ls gr_int _) rv3 rfl (by decide)) (fun Z h' v' le' r => ev_iter_list hA'.handled gr_int r) gr_int (fun _ _ _ => .cel rfl rfl) rfl ?_ ?_ ?_ ?_ (fun _ => rfl))
  · rintro I i h h' m cm nI ⟨vs, us, hm, hl, hx, hm2, hl2, hx2⟩ kb lw
    have haI : a ≠ I := by rintro rfl; obtain ⟨n, e⟩ := hla3; rw [nI] at e; cases e
    have hbI : b ≠ I := by rintro rfl; obtain ⟨n, e⟩ := hl₃; rw [nI] at e; cases e
    exact ⟨vs, us, hm, hl.at fun o e => kb a o haI aL aC e, hx.imp fun u d _ _ r => (g d).up (lw _ (List.mem_cons_self)) r, hm2, hl2.at fun o e => kb b o hbI bL bC e, hx2.imp fun u d _ _ r => (g d).up (lw _ (List.mem_cons_self)) r⟩
  · intro I h' nI kp
    exact ⟨v₁, [], rfl, hla3.at fun o e => kp a o e, hxa3.imp fun u d _ _ r => (g d).up (Le.add kp nI).lw r, rfl, hl₃.at fun o e => kp b o e, by simpa [marksL] using All2.nil⟩
  · rintro I i d u h tk m₁ cm₁ nI hd sx alI ru FF ⟨vs, us, hm, hl, hx, hm2, hl2, hx2⟩
    have hw := way15 d
    have hl3 := w15_len _ hw
    have cx : h.IsCell (L + 1) (some u) := FF.cl.cell (Str.ofString "x") (L + 1) rfl
    have rx : IntR d (I :: b :: a :: Y) h u := ru
    have nx : ∀ {Z h' p}, Le (I :: b :: a :: Y) h Z h' → Ev prog w (A.deeper (fenv 12 q cd L (fa 12))) Z h' (eval (.Name (Str.ofString "x") p) (fenv 12 q cd L (fa 12))) (IntR d) := fun l => ev_name (.cell rfl rfl (cx.keeps l.kp)) (gr_int _) rx rfl (by decide)
    refine wpAny_execs_cons (as_name (s := { s with heap := h, toks := tk }) (R := LsR IntR (figs d)) FF alI
      (ev_List (R := IntR) (ds := figs d) (ev_args_cons (R := IntR (d.fmod 3)) (ev_BinOp (nx (Le.refl _ _)) (gr_int _) ev_int (fun Z h' x y l ra rb => op_mod (by decide) ra rb)) (gr_int _)
        (ev_args_cons (R := IntR ((d.fdiv 3).fmod 3)) (ev_BinOp (ev_BinOp (nx (Le.refl _ _)) (gr_int _) ev_int (fun Z h' x y l ra rb => op_fdiv (by decide) (fun i => by rfl) ra rb)) (gr_int _) ev_int (fun Z h' x y l ra rb => op_mod (by decide) ra rb)) (gr_int _)
        (ev_args_cons (R := IntR ((d.fdiv 9).fmod 3)) (ev_BinOp (ev_BinOp (nx (Le.refl _ _)) (gr_int _) ev_int (fun Z h' x y l ra rb => op_fdiv (by decide) (fun i => by rfl) ra rb)) (gr_int _) ev_int (fun Z h' x y l ra rb => op_mod (by decide) ra rb)) (gr_int _)
        (ev_args_cons (R := IntR 0) ev_int (gr_int _) ev_args_nil rfl) rfl) rfl) rfl) gr_int (fun Z h' vs r => by
          obtain ⟨v1, us1, rfl, r1, v2, us2, rfl, r2, v3, us3, rfl, r3, v4, us4, rfl, r4, rfl⟩ := r
          exact .cons r1 (.cons r2 (.cons r3 (.one r4)))) (sl (by simp [figs]))) (gr_ls gr_int _) (fun v => .loc rfl) rfl rfl ?_)
    intro u₁ h₄ t₄ F₄ sx₄ al₄ r₄
    refine wpAny_execs_cons (as_name (s := { s with heap := h₄, toks := t₄ }) (R := TxR false (wayOf d)) F₄ al₄
      (ev_meth1 (T := "str") (Ro := TxR false []) (Re := LsR (TxR false) ((wayOf d).map fun c => [c])) ev_str (gr_tx _ _)
        (ev_compO (R := IntR) (S := TxR false) (ds := (figs d).take ((figs d).idxOf 0)) (fun _ => true) (fun z => [ab z]) (by rw [List.filter_eq_self.mpr (by simp), wayOf, List.map_map]; rfl)
          (ev_upto_list (ev_name (.loc rfl F₄.ns rfl) (gr_ls gr_int _) r₄ rfl (by decide)) gr_int
            (ev_meth1 (T := "list") (Re := IntR 0) (ev_name (.loc rfl F₄.ns rfl) (gr_ls gr_int _) r₄ rfl (by decide)) (gr_ls gr_int _) ev_int (fun Z h' v r => recv_list r) PySem.F.plainAttrs_list PySem.F.slot_list_index PySem.F.type_list_index
              (fun Z h' x y l ra rb => b_index eqr_int gr_int (hA'.cline _ (by omega)) ra rb (by simp [figs]) (by simp [figs])) rfl rfl rfl) (sl (by simp [figs])) (fun _ _ => rfl))
          (fun Z h' v' le' r => ev_iter_list hA'.handled gr_int r) gr_int g (sl (by rw [List.length_take]; simp [figs]; omega)) (cl := []) rfl (.loc rfl)
          (fun d hd Z h' v C le' al' r S => ev_tests_nil)
          (fun z hz _ Z h' v C le' al' r S => by
            have hz' := fig12 d z hz
            refine ev_Sub (Rl := TxR false [45, 97, 98]) (Rr := IntR (z.toNat : Nat)) ev_str (gr_tx _ _) (ev_name S (gr_int _) (by rcases hz' with rfl | rfl <;> exact r) rfl (by decide)) fun Z' h'' x y l ra rb => ?_
            refine op_titem ra rb ?_ ?_ (fun _ _ _ => rfl)
            · rcases hz' with rfl | rfl <;> rfl
            · rcases hz' with rfl | rfl <;> decide)
          rfl (by decide) (fun _ => rfl))
        (fun Z h' v r => recv_str r) PySem.F.plainAttrs_str PySem.F.slot_str_join PySem.F.type_str_join
        (fun Z h' x y l ra rb => b_sjoin ra rb (join_oneN _ hw) (join_one _ hw)) rfl rfl rfl) (gr_tx _ _) (fun v => .cel rfl rfl) rfl rfl ?_)
    intro u₂ h₅ t₅ F₅ sx₅ al₅ r₅
    have cx5 : h₅.IsCell (L + 1) (some u) := F₅.cl.cell (Str.ofString "x") (L + 1) rfl
    have cw5 : h₅.IsCell (L + 2) (some u₂) := F₅.cl.cell (Str.ofString "way") (L + 2) rfl
    have sx45 : Sx [] [] (fenv 12 q cd L (fa 12)) h h₅ := sx₄.trans sx₅
    have lw45 : Lw (I :: b :: a :: Y) h (I :: b :: a :: Y) h₅ := sx45.up (by simp)
    have haI : a ≠ I := by rintro rfl; obtain ⟨n, e⟩ := hla3; rw [nI] at e; cases e
    have hbI : b ≠ I := by rintro rfl; obtain ⟨n, e⟩ := hl₃; rw [nI] at e; cases e
    have hla5 : h₅.PlainList a vs.toArray := hl.at fun o e => sx45.ef0 (by simp) aL aC e
    have hlb5 : h₅.PlainList b us.toArray := hl2.at fun o e => sx45.ef0 (by simp) bL bC e
    have hvl : vs.length ≤ 1001 := by
      have := hx.length
      simp only [waysL, List.length_cons, List.length_map, List.length_take] at this; omega
    have hul : us.length ≤ 4000 := by
      have := hx2.length
      have h2 := marksL_len (ns.take i)
      rw [List.length_take] at h2; omega
    refine wpAny_execs_cons (st_append (s := { s with heap := h₅, toks := t₅ }) (X := I :: b :: a :: Y) (R := TxR false (wayOf d)) F₅ al₅ (by simp) na0 hla5 (.loc rfl F₅.ns hm) (ev_name (.cell rfl rfl cw5) (g _) r₅ rfl (by decide)) (g _) (sl (by omega)) ?_ rfl (by decide) rfl rfl rfl rfl rfl)
    intro y₆ h₆ t₆ F₆ sx₆ al₆ hl₆ r₆
    have cx6 : h₆.IsCell (L + 1) (some u) := F₆.cl.cell (Str.ofString "x") (L + 1) rfl
    have cw6 : h₆.IsCell (L + 2) (some u₂) := F₆.cl.cell (Str.ofString "way") (L + 2) rfl
    have hlb6 : h₆.PlainList b us.toArray := hlb5.at fun o e => sx₆.ef0 (by simpa using Ne.symm hab) bL bC e
    have r₅' : TxR false (wayOf d) (I :: b :: a :: Y) h₆ u₂ := r₅
    have B6 : Bs fa h₆ := B.up (le.kp.trans F₆.kept)
    have hml := marksOf_len d
    refine wpAny_execs_cons (st_extend (s := { s with heap := h₆, toks := t₆ }) (X := I :: b :: a :: Y) (R := TxR false) (ds := marksOf d) F₆ al₆ (by simp) nb0 hlb6 (.loc rfl F₆.ns hm2)
      (ev_compO (R := fun j : Nat => IntR j) (S := TxR false) (ds := List.range ((wayOf d).length + 1)) (bitK d) (fun j => (wayOf d).take j) rfl
        (ev_callT (B6.b (v := .type "range") (by decide) rfl rfl rfl) (ev_args_cons (R := IntR ((wayOf d).length + 1 : Nat)) (ev_BinOp (ev_callB (B6.b (v := .builtin "len") (by decide) rfl rfl rfl) (ev_args_cons (ev_name (.cell rfl rfl cw6) (g _) r₅' rfl (by decide)) (g _) ev_args_nil rfl) (fun Z h' vs l r => by
            obtain ⟨v, us, rfl, r, rfl⟩ := r
            exact b_slen r (sl (by omega))) rfl (by decide) rfl rfl) (gr_int _) ev_int (fun Z h' x y l ra rb => op_add ra rb)) (gr_int _) ev_args_nil rfl) (fun Z h' vs l r => by
            obtain ⟨v, us, rfl, r, rfl⟩ := r
            exact b_range r) rfl (by decide) rfl rfl)
        (fun Z h' v' le' r => ev_iter_range hA'.handled (by omega) r) (fun j => gr_int j) g (sl (by simp; omega)) rfl (.loc rfl)
        (fun j hj Z h' v C le' al' r S => ev_tests_one (tr_val (R := IntR (Builtin.bitAnd ((d.fdiv 27).fdiv (2 ^ j)) 1)) (ev_BinOp (ev_BinOp (ev_BinOp (ev_name (.cell rfl rfl (cx6.keeps le'.kp)) (gr_int d) ru rfl (by decide)) (gr_int _) ev_int (fun Z h' x y l ra rb => op_fdiv (by decide) (fun i => by rfl) ra rb)) (gr_int _)
            (ev_name S (gr_int _) r rfl (by decide)) (fun Z h' x y l ra rb => op_shr (by omega) ra rb)) (gr_int _) ev_int (fun Z h' x y l ra rb => op_band ra rb)) (fun Z h' v r => op_itruthy r) rfl))
        (fun j hj _ Z h' v C le' al' r S => ev_upto_str (ev_name (.cell rfl rfl (cw6.keeps le'.kp)) (g _) r₅' rfl (by decide)) (ev_name S (gr_int _) r rfl (by decide)) (sl (by omega)) (fun _ _ => rfl))
        rfl (by decide) (fun _ => rfl)) g (sl (by omega)) ?_ rfl (by decide) rfl rfl rfl rfl rfl)
    intro ws h₇ t₇ F₇ sx₇ al₇ hl₇ hx₇
    have hla7 : h₇.PlainList a (vs ++ [y₆]).toArray := hl₆.at fun o e => sx₇.ef0 (by simpa using hab) aL aC e
    have sx67 : Sx [] [a, b] (fenv 12 q cd L (fa 12)) h₅ h₇ := (sx₆.mono (by simp)).trans (sx₇.mono (by simp))
    have lw57 : Lw (I :: b :: a :: Y) h₅ (I :: b :: a :: Y) h₇ := sx67.up (by simp)
    have lw67 : Lw (I :: b :: a :: Y) h₆ (I :: b :: a :: Y) h₇ := sx₇.up (by simp)
    refine wpAny_execs_nil ⟨rfl, h₇, t₇, _, _, rfl, F₇, sx45.nil.trans sx67, vs ++ [y₆], us ++ ws, hm, hla7, ?_, hm2, hl₇, ?_⟩
    · rw [waysL_take hd]
      exact (hx.imp fun u d _ _ r => (g d).up lw57 ((g d).up lw45 r)).append (.one ((g _).up lw67 r₆))
    · rw [marksL_take hd]
      exact (hx2.imp fun u d _ _ r => (g d).up lw57 ((g d).up lw45 r)).append hx₇
  · rintro I h₄ t₄ m₁ cm₁ nI F₄ sx ⟨vs, us, hm, hl, hx, hm2, hl2, hx2⟩
    rw [List.take_length] at hx hx2
    have ra : LsR (TxR false) (waysL ns) Y h₄ (.ref a) := ⟨a, vs, rfl, al.not na0, hl, hx.imp fun u d _ _ r => (g d).up (Lw.sub fun b hb => by simp [hb]) r⟩
    have rb : LsR (TxR false) (marksL ns) Y h₄ (.ref b) := ⟨b, us, rfl, al.not nb0, hl2, hx2.imp fun u d _ _ r => (g d).up (Lw.sub fun b hb => by simp [hb]) r⟩
    refine wpAny_execs_cons (wpAny_Return_some (Ev.here (s := { s with heap := h₄, toks := t₄ }) (X := Y) (R := TpR (LsR (TxR false)) (LsR (TxR false)) (waysL ns, marksL ns)) ?_ (al.up F₄.kept) fun v h₅ t₅ k₅ r => ⟨v, h₅, t₅, rfl, rfl, F₄.kept.trans k₅, r⟩))
    exact ev_Tuple2 (ev_args_cons (ev_name (.loc rfl F₄.ns hm) (gr_ls g _) ra rfl (by decide)) (gr_ls g _) (ev_args_cons (ev_name (.loc rfl F₄.ns hm2) (gr_ls g _) rb rfl (by decide)) (gr_ls g _) ev_args_nil rfl) rfl) (gr_ls g) (gr_ls g)
end
end Mine
end

section
set_option maxRecDepth 100000
set_option maxHeartbeats 4000000
namespace Mine
open PySem PySem.W PyProof.Rows PySem.Calls PySem.SeqAt

def belowOf (words : List (List Nat)) (wd : List Nat) : List (List Nat) := words.filter fun o => decide (o.take wd.length = wd)
def isEnd (words : List (List Nat)) (o : List Nat) : Bool := !decide (o ++ [97] ∈ words) && !decide (o ++ [98] ∈ words)
def endsOf (words : List (List Nat)) (wd : List Nat) : List (List Nat) := (belowOf words wd).filter (isEnd words)
def someIn (marked row : List (List Nat)) : Bool := !decide ((row.filter fun o => decide (o ∈ marked)) = [])
def allIn (marked row : List (List Nat)) : Bool := decide ((row.filter fun o => !decide (o ∈ marked)) = [])
def fiveL (words marked : List (List Nat)) : List (List (List Nat)) :=
  [words.filter fun wd => decide (wd ∈ marked), words.filter fun wd => someIn marked (belowOf words wd), words.filter fun wd => allIn marked (belowOf words wd),
   words.filter fun wd => someIn marked (endsOf words wd), words.filter fun wd => allIn marked (endsOf words wd)]
theorem sel_eq (words : List (List Nat)) (q : List Nat → Bool) : (((List.range words.length).filter fun j => q (words.getD j [])).map fun j => words.getD j []) = words.filter q := by
  have e : (List.range words.length).map (fun j => words.getD j []) = words := by
    refine List.ext_getElem? fun i => ?_
    by_cases hi : i < words.length
    · simp [hi]
    · simp [hi]
  conv => rhs; rw [← e, List.filter_map]
  rfl
theorem below_len (words : List (List Nat)) (wd : List Nat) : (belowOf words wd).length ≤ words.length := List.length_filter_le _ _
theorem ends_len (words : List (List Nat)) (wd : List Nat) : (endsOf words wd).length ≤ words.length := Nat.le_trans (List.length_filter_le _ _) (below_len _ _)
theorem see_cell {env : Env} {h : Heap} {x : Str} {v : Value} {c : Addr} (S : See env h x v) (k : env.kindOf x = some .cell) (n : env.cells.lookup x = some c) : h.IsCell c (some v) := by
  cases S with
  | loc a b e => rw [k] at a; cases a
  | cell a b e => rw [n] at b; injection b with b; subst b; exact e
  | free a b e d => rw [k] at a; cases a
  | glob a b e => rw [k] at a; cases a
  | built a b e n' e' => rw [k] at a; cases a

section
variable {prog : Program} {w : World} {A : Around} {X : List Addr} {h : Heap} {fa : Nat → Addr} {env : Env} {a b : Value}
theorem op_tin {o : Bool} {d : List Nat} {ds : List (List Nat)} (hu : A.units + 1 < cLine) (ra : TxR o d X h a) (rb : LsR (TxR o) ds X h b) : Ev prog w A X h (compareOp .In a b) (BoolR (decide (d ∈ ds))) :=
  (op_in (eqr_tx o) (gr_tx o) hu ra rb).mono fun _ _ _ _ r => r.trans (by congr 1; try exact decide_eq_decide.mpr Iff.rfl)
theorem op_tnin {o : Bool} {d : List Nat} {ds : List (List Nat)} (hu : A.units + 1 < cLine) (ra : TxR o d X h a) (rb : LsR (TxR o) ds X h b) : Ev prog w A X h (compareOp .NotIn a b) (BoolR (!decide (d ∈ ds))) :=
  (op_notIn (eqr_tx o) (gr_tx o) hu ra rb).mono fun _ _ _ _ r => r.trans (by congr 2; try exact decide_eq_decide.mpr Iff.rfl)
theorem op_tleq {o : Bool} {ds es : List (List Nat)} (hu : A.units + 1 < cLine) (ra : LsR (TxR o) ds X h a) (rb : LsR (TxR o) es X h b) : Ev prog w A X h (compareOp .Eq a b) (BoolR (decide (ds = es))) :=
  (op_leq (eqr_tx o) (gr_tx o) hu ra rb).mono fun _ _ _ _ r => r.trans (by congr 1; try exact decide_eq_decide.mpr Iff.rfl)
theorem op_tlne {o : Bool} {ds es : List (List Nat)} (hu : A.units + 1 < cLine) (ra : LsR (TxR o) ds X h a) (rb : LsR (TxR o) es X h b) : Ev prog w A X h (compareOp .NotEq a b) (BoolR (!decide (ds = es))) :=
  (op_lne (eqr_tx o) (gr_tx o) hu ra rb).mono fun _ _ _ _ r => r.trans (by congr 2; try exact decide_eq_decide.mpr Iff.rfl)
theorem c_five {k : Nat} {words marked : List (List Nat)} {v₁ v₂ : Value} (hA : Ok (k + 1) A) (B : Bs fa h) (hW : ∀ w ∈ words, w ∈ W15) (hlen : words.length ≤ 1000) (rv₁ : LsR (TxR false) words X h v₁) (rv₂ : LsR (TxR false) marked X h v₂) :
    Ev prog w A X h (call (.ref (fa 13)) [v₁, v₂]) (LsR (LsR (TxR false)) (fiveL words marked)) := by
  refine call_fn (k := k) hA B.lim (B.fn 13 (by decide)) (binds := [(Str.ofString "words", v₁), (Str.ofString "marked", v₂)]) (fun _ _ _ _ _ _ _ => rfl) ?_ ?_ rfl rfl rfl
  · intro L x hx
    rcases List.mem_cons.mp hx with rfl | hx
    · exact .inr ⟨rfl, rfl⟩
    · rw [List.mem_singleton.mp hx]; exact .inr ⟨rfl, rfl⟩
  intro Y s q cd L h₁ tk le al kp₀ F hA'
  have g := gr_tx false
  have gl : ∀ d, GR (LsR (TxR false) d) := gr_ls g
  have gll : ∀ d, GR (LsR (LsR (TxR false)) d) := gr_ls gl
  have sl : ∀ {n : Nat}, n ≤ 1000000 → n ≤ sizeLine := fun h => by rw [sizeLine_eq]; omega
  have hget : ∀ (j : Nat), j ∈ List.range words.length → words[((j : Nat) : Int).toNat]? = some (words.getD j []) := fun j hj => by
    have := List.mem_range.mp hj
    simp [this]
  have hgetB : ∀ (j : Nat), j ∈ List.range words.length → (words.map (belowOf words))[((j : Nat) : Int).toNat]? = some (belowOf words (words.getD j [])) := fun j hj => by
    have := List.mem_range.mp hj
    simp [this]
  have hgetE : ∀ (j : Nat), j ∈ List.range words.length → (words.map (endsOf words))[((j : Nat) : Int).toNat]? = some (endsOf words (words.getD j [])) := fun j hj => by
    have := List.mem_range.mp hj
    simp [this]
  have hj60 : ∀ (j : Nat), j ∈ List.range words.length → (j : Int) < 2 ^ 63 := fun j hj => by
    have := List.mem_range.mp hj; omega
  have hl3 : ∀ o ∈ words, o.length ≤ 3 := fun o ho => w15_len o (hW o ho)
  have rW1 : LsR (TxR false) words Y h₁ v₁ := (gl _).up (le.step kp₀).lw rv₁
  have rM1 : LsR (TxR false) marked Y h₁ v₂ := (gl _).up (le.step kp₀).lw rv₂
  have cW1 : h₁.IsCell (L + 1) (some v₁) := F.cl.cell (Str.ofString "words") (L + 1) rfl
  have cM1 : h₁.IsCell (L + 2) (some v₂) := F.cl.cell (Str.ofString "marked") (L + 2) rfl
  refine wpAny_execs_cons (as_name (s := { s with heap := h₁, toks := tk }) (R := LsR (LsR (TxR false)) (words.map (belowOf words))) F (al.up kp₀)
    (ev_compO (R := TxR false) (S := LsR (TxR false)) (ds := words) (fun _ => true) (belowOf words) (by rw [List.filter_eq_self.mpr (by simp)])
      (ev_name (.cell rfl rfl cW1) (gl _) rW1 rfl (by decide)) (fun Z h' v' le' r => ev_iter_list hA'.handled g r) g gl (sl (by omega)) rfl (.cel rfl (fun _ => rfl) (fun _ => rfl))
      (fun d hd Z h' v C le' al' r S => ev_tests_nil)
      (fun wd hwd _ Z h' v C le' al' r S => by
        have cw : h'.IsCell (C + 1) (some v) := see_cell S rfl rfl
        refine ev_compO (R := TxR false) (S := TxR false) (ds := words) (fun o => decide (o.take wd.length = wd)) id (by rw [List.map_id]; rfl)
          (ev_name (.cell rfl rfl (cW1.keeps le'.kp)) (gl _) ((gl _).up le'.lw rW1) rfl (by decide)) (fun Z h' v' le' r => ev_iter_list hA'.handled g r) g g (sl (by omega)) rfl (.loc rfl)
          (fun o ho Z' h'' v' C' le'' al'' r' S' => ev_tests_one (tr_Cmp (ev_upto_str (ev_name S' (g _) r' rfl (by decide))
              (ev_callB ((B.up ((le.step kp₀).kp.trans (le'.kp.trans le''.kp))).b (v := .builtin "len") (by decide) rfl rfl rfl) (ev_args_cons (ev_name (.cell rfl rfl (cw.keeps le''.kp)) (g _) r rfl (by decide)) (g _) ev_args_nil rfl) (fun Z h' vs l r => by
                obtain ⟨v, us, rfl, r, rfl⟩ := r
                exact b_slen r (sl (by have := hl3 wd hwd; omega))) rfl (by decide) rfl rfl) (sl (by have := hl3 o ho; omega)) (fun _ _ => rfl)) (g _)
            (ev_name (.cell rfl rfl (cw.keeps le''.kp)) (g _) r rfl (by decide)) (fun Z h' x y l ra rb => op_teq ra rb) rfl))
          (fun o ho _ Z' h'' v' C' le'' al'' r' S' => ev_name S' (g _) r' rfl (by decide)) rfl (by decide) (fun _ => rfl))
      rfl (by decide) (fun _ => rfl)) (gll _) (fun v => .cel rfl rfl) rfl rfl ?_)
  intro vB h₂ t₂ F₂ sx₂ al₂ rB2
  have rW2 : LsR (TxR false) words Y h₂ v₁ := (gl _).up (sx₂.up (by simp)) rW1
  have rM2 : LsR (TxR false) marked Y h₂ v₂ := (gl _).up (sx₂.up (by simp)) rM1
  have cW2 : h₂.IsCell (L + 1) (some v₁) := F₂.cl.cell (Str.ofString "words") (L + 1) rfl
  have cB2 : h₂.IsCell (L + 3) (some vB) := F₂.cl.cell (Str.ofString "below") (L + 3) rfl
  have hrow : ∀ row ∈ words.map (belowOf words), row.length ≤ 1000 ∧ ∀ o ∈ row, o.length ≤ 3 := fun row hr => by
    obtain ⟨wd, _, rfl⟩ := List.mem_map.mp hr
    exact ⟨Nat.le_trans (below_len _ _) hlen, fun o ho => hl3 o (List.mem_filter.mp ho).1⟩
  refine wpAny_execs_cons (as_name (s := { s with heap := h₂, toks := t₂ }) (R := LsR (LsR (TxR false)) (words.map (endsOf words))) F₂ al₂
    (ev_compO (R := LsR (TxR false)) (S := LsR (TxR false)) (ds := words.map (belowOf words)) (fun _ => true) (fun row => row.filter (isEnd words)) (by rw [List.filter_eq_self.mpr (by simp), List.map_map]; rfl)
      (ev_name (.cell rfl rfl cB2) (gll _) rB2 rfl (by decide)) (fun Z h' v' le' r => ev_iter_list hA'.handled gl r) gl gl (sl (by rw [List.length_map]; omega)) rfl (.loc rfl)
      (fun d hd Z h' v C le' al' r S => ev_tests_nil)
      (fun row hr _ Z h' v C le' al' r S => by
        refine ev_compO (R := TxR false) (S := TxR false) (ds := row) (isEnd words) id (by rw [List.map_id])
          (ev_name S (gl _) r rfl (by decide)) (fun Z h' v' le' r => ev_iter_list hA'.handled g r) g g (sl (by have := (hrow row hr).1; omega)) rfl (.loc rfl)
          (fun o ho Z' h'' v' C' le'' al'' r' S' => by
            exact ev_tests_one (tr_and (tr_Cmp (ev_BinOp (ev_name S' (g _) r' rfl (by decide)) (g _) ev_str (fun Z h' x y l ra rb => op_tadd ra rb (sl (show o.length + 1 ≤ 1000000 by have := (hrow row hr).2 o ho; omega)))) (g _)
              (ev_name (.cell rfl rfl (cW2.keeps (le'.kp.trans le''.kp))) (gl _) ((gl _).up (le'.trans le'').lw rW2) rfl (by decide)) (fun Z h' x y l ra rb => op_tnin (hA'.cline _ (by omega)) ra rb) rfl)
              fun _ => tr_Cmp (ev_BinOp (ev_name S' (g _) r' rfl (by decide)) (g _) ev_str (fun Z h' x y l ra rb => op_tadd ra rb (sl (show o.length + 1 ≤ 1000000 by have := (hrow row hr).2 o ho; omega)))) (g _)
              (ev_name (.cell rfl rfl (cW2.keeps (le'.kp.trans le''.kp))) (gl _) ((gl _).up (le'.trans le'').lw rW2) rfl (by decide)) (fun Z h' x y l ra rb => op_tnin (hA'.cline _ (by omega)) ra rb) rfl))
          (fun o ho _ Z' h'' v' C' le'' al'' r' S' => ev_name S' (g _) r' rfl (by decide)) rfl (by decide) (fun _ => rfl))
      rfl (by decide) (fun _ => rfl)) (gll _) (fun v => .cel rfl rfl) rfl rfl ?_)
  intro vE h₃ t₃ F₃ sx₃ al₃ rE3
  have rW3 : LsR (TxR false) words Y h₃ v₁ := (gl _).up (sx₃.up (by simp)) rW2
  have rM3 : LsR (TxR false) marked Y h₃ v₂ := (gl _).up (sx₃.up (by simp)) rM2
  have rB3 : LsR (LsR (TxR false)) (words.map (belowOf words)) Y h₃ vB := (gll _).up (sx₃.up (by simp)) rB2
  have cW3 : h₃.IsCell (L + 1) (some v₁) := F₃.cl.cell (Str.ofString "words") (L + 1) rfl
  have B3 : Bs fa h₃ := B.up (le.kp.trans F₃.kept)
  refine wpAny_execs_cons (as_name (s := { s with heap := h₃, toks := t₃ }) (R := RgR words.length) F₃ al₃
    (ev_callT (B3.b (v := .type "range") (by decide) rfl rfl rfl) (ev_args_cons (R := IntR (words.length : Nat)) (ev_callB (B3.b (v := .builtin "len") (by decide) rfl rfl rfl) (ev_args_cons (ev_name (.cell rfl rfl cW3) (gl _) rW3 rfl (by decide)) (gl _) ev_args_nil rfl) (fun Z h' vs l r => by
        obtain ⟨v, us, rfl, r, rfl⟩ := r
        exact b_len g r (sl (by omega))) rfl (by decide) rfl rfl) (gr_int _) ev_args_nil rfl) (fun Z h' vs l r => by
        obtain ⟨v, us, rfl, r, rfl⟩ := r
        exact b_range r) rfl (by decide) rfl rfl) (gr_rg _) (fun v => .loc rfl) rfl rfl ?_)
  intro vP h₄ t₄ F₄ sx₄ al₄ rP4
  have rW4 : LsR (TxR false) words Y h₄ v₁ := (gl _).up (sx₄.up (by simp)) rW3
  have rM4 : LsR (TxR false) marked Y h₄ v₂ := (gl _).up (sx₄.up (by simp)) rM3
  have rB4 : LsR (LsR (TxR false)) (words.map (belowOf words)) Y h₄ vB := (gll _).up (sx₄.up (by simp)) rB3
  have rE4 : LsR (LsR (TxR false)) (words.map (endsOf words)) Y h₄ vE := (gll _).up (sx₄.up (by simp)) rE3
  have cW4 : h₄.IsCell (L + 1) (some v₁) := F₄.cl.cell (Str.ofString "words") (L + 1) rfl
  have cM4 : h₄.IsCell (L + 2) (some v₂) := F₄.cl.cell (Str.ofString "marked") (L + 2) rfl
  have hfl : ∀ p : List Nat → Bool, (words.filter p).length ≤ 1000 := fun p => Nat.le_trans (List.length_filter_le _ _) hlen
  refine wpAny_execs_cons (as_new (s := { s with heap := h₄, toks := t₄ }) (R := LsR (TxR false)) (ds := [words.filter fun wd => decide (wd ∈ marked)]) F₄ al₄
    (nw_List (R := LsR (TxR false)) (ev_args_cons (R := LsR (TxR false) (words.filter fun wd => decide (wd ∈ marked)))
      (ev_compO (R := TxR false) (S := TxR false) (ds := words) (fun o => decide (o ∈ marked)) id (by rw [List.map_id])
        (ev_name (.cell rfl rfl cW4) (gl _) rW4 rfl (by decide)) (fun Z h' v' le' r => ev_iter_list hA'.handled g r) g g (sl (by omega)) rfl (.loc rfl)
        (fun o ho Z' h'' v' C' le'' al'' r' S' => ev_tests_one (tr_Cmp (ev_name S' (g _) r' rfl (by decide)) (g _) (ev_name (.cell rfl rfl (cM4.keeps le''.kp)) (gl _) ((gl _).up le''.lw rM4) rfl (by decide)) (fun Z3 h3 x y l ra rb => op_tin (hA'.cline _ (by omega)) ra rb) rfl))
        (fun o ho _ Z' h'' v' C' le'' al'' r' S' => ev_name S' (g _) r' rfl (by decide)) rfl (by decide) (fun _ => rfl)) (gl _) ev_args_nil rfl) gl (fun Z h' vs r => by
      obtain ⟨v, us, rfl, r, rfl⟩ := r; exact .one r) (sl (by simp))) gl (fun v => .loc rfl) rfl rfl ?_)
  rintro a u₅ h₅ t₅ na aL aC F₅ sx₅ lw₅ al₅ hl₅ hx₅
  have na0 : s.heap.get? a = none := F₄.base.off na
  have rW5 : LsR (TxR false) words (a :: Y) h₅ v₁ := (gl _).up lw₅ rW4
  have rM5 : LsR (TxR false) marked (a :: Y) h₅ v₂ := (gl _).up lw₅ rM4
  have rB5 : LsR (LsR (TxR false)) (words.map (belowOf words)) (a :: Y) h₅ vB := (gll _).up lw₅ rB4
  have rE5 : LsR (LsR (TxR false)) (words.map (endsOf words)) (a :: Y) h₅ vE := (gll _).up lw₅ rE4
  have rP5 : RgR words.length (a :: Y) h₅ vP := (gr_rg _).up lw₅ rP4
  have len5 : u₅.length = 1 := by rw [hx₅.length]; rfl
  have cW5 : h₅.IsCell (L + 1) (some v₁) := F₅.cl.cell (Str.ofString "words") (L + 1) rfl
  have cM5 : h₅.IsCell (L + 2) (some v₂) := F₅.cl.cell (Str.ofString "marked") (L + 2) rfl
  have cB5 : h₅.IsCell (L + 3) (some vB) := F₅.cl.cell (Str.ofString "below") (L + 3) rfl
  refine wpAny_execs_cons (st_append (s := { s with heap := h₅, toks := t₅ }) (X := a :: Y) (R := LsR (TxR false) (words.filter fun wd => someIn marked (belowOf words wd))) F₅ al₅ (by simp) na0 hl₅ (.loc rfl F₅.ns rfl)
    (ev_compO (R := fun j : Nat => IntR j) (S := TxR false) (ds := List.range words.length) (fun j => someIn marked (belowOf words (words.getD j []))) (fun j => words.getD j []) (sel_eq words fun wd => someIn marked (belowOf words wd))
      (ev_name (.loc rfl F₅.ns rfl) (gr_rg _) rP5 rfl (by decide)) (fun Z h' v' le' r => ev_iter_range hA'.handled (by omega) r) (fun j => gr_int j) g (sl (by simp; omega)) rfl (.loc rfl)
      (fun j hj Z h' v C le' al' r S => ev_tests_one (tr_Cmp
        (ev_compO (R := TxR false) (S := TxR false) (ds := belowOf words (words.getD j [])) (fun o => decide (o ∈ marked)) id (by rw [List.map_id])
          (ev_Sub (ev_name (.cell rfl rfl (cB5.keeps le'.kp)) (gll _) ((gll _).up le'.lw rB5) rfl (by decide)) (gll _) (ev_name S (gr_int _) r rfl (by decide)) fun Z' h'' x y l ra rb => ev_item_list ra rb (by omega) (hj60 j hj) (hgetB j hj) gl (fun _ _ => rfl))
          (fun Z' h'' v' le'' r' => ev_iter_list hA'.handled g r') g g (sl (by have := below_len words (words.getD j []); omega)) rfl (.loc rfl)
          (fun d hd Z' h'' v' C' le'' al'' r' S' => ev_tests_one (tr_Cmp (ev_name S' (g _) r' rfl (by decide)) (g _) (ev_name (.cell rfl rfl (cM5.keeps (le'.kp.trans le''.kp))) (gl _) ((gl _).up (le'.trans le'').lw rM5) rfl (by decide)) (fun Z3 h3 x y l ra rb => op_tin (hA'.cline _ (by omega)) ra rb) rfl))
          (fun d hd _ Z' h'' v' C' le'' al'' r' S' => ev_name S' (g _) r' rfl (by decide))
          rfl (by decide) (fun _ => rfl)) (gl _)
        (ev_List (R := TxR false) (ds := []) ev_args_nil g (fun Z h' vs r => by rw [show vs = [] from r]; exact .nil) (sl (by simp)))
        (fun Z' h'' x y l ra rb => op_tlne (hA'.cline _ (by omega)) ra rb) rfl))
      (fun j hj _ Z h' v C le' al' r S => ev_Sub (ev_name (.cell rfl rfl (cW5.keeps le'.kp)) (gl _) ((gl _).up le'.lw rW5) rfl (by decide)) (gl _) (ev_name S (gr_int _) r rfl (by decide)) fun Z' h'' x y l ra rb => ev_item_list ra rb (by omega) (hj60 j hj) (hget j hj) g (fun _ _ => rfl))
      rfl (by decide) (fun _ => rfl)) (gl _) (sl (by simp [len5])) ?_ rfl (by decide) rfl rfl rfl rfl rfl)
  intro y₆ h₆ t₆ F₆ sx₆ al₆ hl₆ r₆
  have lw₆ : Lw (a :: Y) h₅ (a :: Y) h₆ := sx₆.up (by simp)
  have rW6 : LsR (TxR false) words (a :: Y) h₆ v₁ := (gl _).up lw₆ rW5
  have rM6 : LsR (TxR false) marked (a :: Y) h₆ v₂ := (gl _).up lw₆ rM5
  have rB6 : LsR (LsR (TxR false)) (words.map (belowOf words)) (a :: Y) h₆ vB := (gll _).up lw₆ rB5
  have rE6 : LsR (LsR (TxR false)) (words.map (endsOf words)) (a :: Y) h₆ vE := (gll _).up lw₆ rE5
  have rP6 : RgR words.length (a :: Y) h₆ vP := (gr_rg _).up lw₆ rP5
  have hx₆ := (hx₅.imp fun u d _ _ r => (gl d).up lw₆ r).append (.one r₆)
  have cW6 : h₆.IsCell (L + 1) (some v₁) := F₆.cl.cell (Str.ofString "words") (L + 1) rfl
  have cM6 : h₆.IsCell (L + 2) (some v₂) := F₆.cl.cell (Str.ofString "marked") (L + 2) rfl
  have cB6 : h₆.IsCell (L + 3) (some vB) := F₆.cl.cell (Str.ofString "below") (L + 3) rfl
  refine wpAny_execs_cons (st_append (s := { s with heap := h₆, toks := t₆ }) (X := a :: Y) (R := LsR (TxR false) (words.filter fun wd => allIn marked (belowOf words wd))) F₆ al₆ (by simp) na0 hl₆ (.loc rfl F₆.ns rfl)
    (ev_compO (R := fun j : Nat => IntR j) (S := TxR false) (ds := List.range words.length) (fun j => allIn marked (belowOf words (words.getD j []))) (fun j => words.getD j []) (sel_eq words fun wd => allIn marked (belowOf words wd))
      (ev_name (.loc rfl F₆.ns rfl) (gr_rg _) rP6 rfl (by decide)) (fun Z h' v' le' r => ev_iter_range hA'.handled (by omega) r) (fun j => gr_int j) g (sl (by simp; omega)) rfl (.loc rfl)
      (fun j hj Z h' v C le' al' r S => ev_tests_one (tr_Cmp
        (ev_compO (R := TxR false) (S := TxR false) (ds := belowOf words (words.getD j [])) (fun o => !decide (o ∈ marked)) id (by rw [List.map_id])
          (ev_Sub (ev_name (.cell rfl rfl (cB6.keeps le'.kp)) (gll _) ((gll _).up le'.lw rB6) rfl (by decide)) (gll _) (ev_name S (gr_int _) r rfl (by decide)) fun Z' h'' x y l ra rb => ev_item_list ra rb (by omega) (hj60 j hj) (hgetB j hj) gl (fun _ _ => rfl))
          (fun Z' h'' v' le'' r' => ev_iter_list hA'.handled g r') g g (sl (by have := below_len words (words.getD j []); omega)) rfl (.loc rfl)
          (fun d hd Z' h'' v' C' le'' al'' r' S' => ev_tests_one (tr_Cmp (ev_name S' (g _) r' rfl (by decide)) (g _) (ev_name (.cell rfl rfl (cM6.keeps (le'.kp.trans le''.kp))) (gl _) ((gl _).up (le'.trans le'').lw rM6) rfl (by decide)) (fun Z3 h3 x y l ra rb => op_tnin (hA'.cline _ (by omega)) ra rb) rfl))
          (fun d hd _ Z' h'' v' C' le'' al'' r' S' => ev_name S' (g _) r' rfl (by decide))
          rfl (by decide) (fun _ => rfl)) (gl _)
        (ev_List (R := TxR false) (ds := []) ev_args_nil g (fun Z h' vs r => by rw [show vs = [] from r]; exact .nil) (sl (by simp)))
        (fun Z' h'' x y l ra rb => op_tleq (hA'.cline _ (by omega)) ra rb) rfl))
      (fun j hj _ Z h' v C le' al' r S => ev_Sub (ev_name (.cell rfl rfl (cW6.keeps le'.kp)) (gl _) ((gl _).up le'.lw rW6) rfl (by decide)) (gl _) (ev_name S (gr_int _) r rfl (by decide)) fun Z' h'' x y l ra rb => ev_item_list ra rb (by omega) (hj60 j hj) (hget j hj) g (fun _ _ => rfl))
      rfl (by decide) (fun _ => rfl)) (gl _) (sl (by simp [len5])) ?_ rfl (by decide) rfl rfl rfl rfl rfl)
  intro y₇ h₇ t₇ F₇ sx₇ al₇ hl₇ r₇
  have lw₇ : Lw (a :: Y) h₆ (a :: Y) h₇ := sx₇.up (by simp)
  have rW7 : LsR (TxR false) words (a :: Y) h₇ v₁ := (gl _).up lw₇ rW6
  have rM7 : LsR (TxR false) marked (a :: Y) h₇ v₂ := (gl _).up lw₇ rM6
  have rB7 : LsR (LsR (TxR false)) (words.map (belowOf words)) (a :: Y) h₇ vB := (gll _).up lw₇ rB6
  have rE7 : LsR (LsR (TxR false)) (words.map (endsOf words)) (a :: Y) h₇ vE := (gll _).up lw₇ rE6
  have rP7 : RgR words.length (a :: Y) h₇ vP := (gr_rg _).up lw₇ rP6
  have hx₇ := (hx₆.imp fun u d _ _ r => (gl d).up lw₇ r).append (.one r₇)
  have cW7 : h₇.IsCell (L + 1) (some v₁) := F₇.cl.cell (Str.ofString "words") (L + 1) rfl
  have cM7 : h₇.IsCell (L + 2) (some v₂) := F₇.cl.cell (Str.ofString "marked") (L + 2) rfl
  have cE7 : h₇.IsCell (L + 4) (some vE) := F₇.cl.cell (Str.ofString "ends") (L + 4) rfl
  refine wpAny_execs_cons (st_append (s := { s with heap := h₇, toks := t₇ }) (X := a :: Y) (R := LsR (TxR false) (words.filter fun wd => someIn marked (endsOf words wd))) F₇ al₇ (by simp) na0 hl₇ (.loc rfl F₇.ns rfl)
    (ev_compO (R := fun j : Nat => IntR j) (S := TxR false) (ds := List.range words.length) (fun j => someIn marked (endsOf words (words.getD j []))) (fun j => words.getD j []) (sel_eq words fun wd => someIn marked (endsOf words wd))
      (ev_name (.loc rfl F₇.ns rfl) (gr_rg _) rP7 rfl (by decide)) (fun Z h' v' le' r => ev_iter_range hA'.handled (by omega) r) (fun j => gr_int j) g (sl (by simp; omega)) rfl (.loc rfl)
      (fun j hj Z h' v C le' al' r S => ev_tests_one (tr_Cmp
        (ev_compO (R := TxR false) (S := TxR false) (ds := endsOf words (words.getD j [])) (fun o => decide (o ∈ marked)) id (by rw [List.map_id])
          (ev_Sub (ev_name (.cell rfl rfl (cE7.keeps le'.kp)) (gll _) ((gll _).up le'.lw rE7) rfl (by decide)) (gll _) (ev_name S (gr_int _) r rfl (by decide)) fun Z' h'' x y l ra rb => ev_item_list ra rb (by omega) (hj60 j hj) (hgetE j hj) gl (fun _ _ => rfl))
          (fun Z' h'' v' le'' r' => ev_iter_list hA'.handled g r') g g (sl (by have := ends_len words (words.getD j []); omega)) rfl (.loc rfl)
          (fun d hd Z' h'' v' C' le'' al'' r' S' => ev_tests_one (tr_Cmp (ev_name S' (g _) r' rfl (by decide)) (g _) (ev_name (.cell rfl rfl (cM7.keeps (le'.kp.trans le''.kp))) (gl _) ((gl _).up (le'.trans le'').lw rM7) rfl (by decide)) (fun Z3 h3 x y l ra rb => op_tin (hA'.cline _ (by omega)) ra rb) rfl))
          (fun d hd _ Z' h'' v' C' le'' al'' r' S' => ev_name S' (g _) r' rfl (by decide))
          rfl (by decide) (fun _ => rfl)) (gl _)
        (ev_List (R := TxR false) (ds := []) ev_args_nil g (fun Z h' vs r => by rw [show vs = [] from r]; exact .nil) (sl (by simp)))
        (fun Z' h'' x y l ra rb => op_tlne (hA'.cline _ (by omega)) ra rb) rfl))
      (fun j hj _ Z h' v C le' al' r S => ev_Sub (ev_name (.cell rfl rfl (cW7.keeps le'.kp)) (gl _) ((gl _).up le'.lw rW7) rfl (by decide)) (gl _) (ev_name S (gr_int _) r rfl (by decide)) fun Z' h'' x y l ra rb => ev_item_list ra rb (by omega) (hj60 j hj) (hget j hj) g (fun _ _ => rfl))
      rfl (by decide) (fun _ => rfl)) (gl _) (sl (by simp [len5])) ?_ rfl (by decide) rfl rfl rfl rfl rfl)
  intro y₈ h₈ t₈ F₈ sx₈ al₈ hl₈ r₈
  have lw₈ : Lw (a :: Y) h₇ (a :: Y) h₈ := sx₈.up (by simp)
  have rW8 : LsR (TxR false) words (a :: Y) h₈ v₁ := (gl _).up lw₈ rW7
  have rM8 : LsR (TxR false) marked (a :: Y) h₈ v₂ := (gl _).up lw₈ rM7
  have rB8 : LsR (LsR (TxR false)) (words.map (belowOf words)) (a :: Y) h₈ vB := (gll _).up lw₈ rB7
  have rE8 : LsR (LsR (TxR false)) (words.map (endsOf words)) (a :: Y) h₈ vE := (gll _).up lw₈ rE7
  have rP8 : RgR words.length (a :: Y) h₈ vP := (gr_rg _).up lw₈ rP7
  have hx₈ := (hx₇.imp fun u d _ _ r => (gl d).up lw₈ r).append (.one r₈)
  have cW8 : h₈.IsCell (L + 1) (some v₁) := F₈.cl.cell (Str.ofString "words") (L + 1) rfl
  have cM8 : h₈.IsCell (L + 2) (some v₂) := F₈.cl.cell (Str.ofString "marked") (L + 2) rfl
  have cE8 : h₈.IsCell (L + 4) (some vE) := F₈.cl.cell (Str.ofString "ends") (L + 4) rfl
  refine wpAny_execs_cons (st_append (s := { s with heap := h₈, toks := t₈ }) (X := a :: Y) (R := LsR (TxR false) (words.filter fun wd => allIn marked (endsOf words wd))) F₈ al₈ (by simp) na0 hl₈ (.loc rfl F₈.ns rfl)
    (ev_compO (R := fun j : Nat => IntR j) (S := TxR false) (ds := List.range words.length) (fun j => allIn marked (endsOf words (words.getD j []))) (fun j => words.getD j []) (sel_eq words fun wd => allIn marked (endsOf words wd))
      (ev_name (.loc rfl F₈.ns rfl) (gr_rg _) rP8 rfl (by decide)) (fun Z h' v' le' r => ev_iter_range hA'.handled (by omega) r) (fun j => gr_int j) g (sl (by simp; omega)) rfl (.loc rfl)
      (fun j hj Z h' v C le' al' r S => ev_tests_one (tr_Cmp
        (ev_compO (R := TxR false) (S := TxR false) (ds := endsOf words (words.getD j [])) (fun o => !decide (o ∈ marked)) id (by rw [List.map_id])
          (ev_Sub (ev_name (.cell rfl rfl (cE8.keeps le'.kp)) (gll _) ((gll _).up le'.lw rE8) rfl (by decide)) (gll _) (ev_name S (gr_int _) r rfl (by decide)) fun Z' h'' x y l ra rb => ev_item_list ra rb (by omega) (hj60 j hj) (hgetE j hj) gl (fun _ _ => rfl))
          (fun Z' h'' v' le'' r' => ev_iter_list hA'.handled g r') g g (sl (by have := ends_len words (words.getD j []); omega)) rfl (.loc rfl)
          (fun d hd Z' h'' v' C' le'' al'' r' S' => ev_tests_one (tr_Cmp (ev_name S' (g _) r' rfl (by decide)) (g _) (ev_name (.cell rfl rfl (cM8.keeps (le'.kp.trans le''.kp))) (gl _) ((gl _).up (le'.trans le'').lw rM8) rfl (by decide)) (fun Z3 h3 x y l ra rb => op_tnin (hA'.cline _ (by omega)) ra rb) rfl))
          (fun d hd _ Z' h'' v' C' le'' al'' r' S' => ev_name S' (g _) r' rfl (by decide))
          rfl (by decide) (fun _ => rfl)) (gl _)
        (ev_List (R := TxR false) (ds := []) ev_args_nil g (fun Z h' vs r => by rw [show vs = [] from r]; exact .nil) (sl (by simp)))
        (fun Z' h'' x y l ra rb => op_tleq (hA'.cline _ (by omega)) ra rb) rfl))
      (fun j hj _ Z h' v C le' al' r S => ev_Sub (ev_name (.cell rfl rfl (cW8.keeps le'.kp)) (gl _) ((gl _).up le'.lw rW8) rfl (by decide)) (gl _) (ev_name S (gr_int _) r rfl (by decide)) fun Z' h'' x y l ra rb => ev_item_list ra rb (by omega) (hj60 j hj) (hget j hj) g (fun _ _ => rfl))
      rfl (by decide) (fun _ => rfl)) (gl _) (sl (by simp [len5])) ?_ rfl (by decide) rfl rfl rfl rfl rfl)
  intro y₉ h₉ t₉ F₉ sx₉ al₉ hl₉ r₉
  have lw₉ : Lw (a :: Y) h₈ (a :: Y) h₉ := sx₉.up (by simp)
  have rW9 : LsR (TxR false) words (a :: Y) h₉ v₁ := (gl _).up lw₉ rW8
  have rM9 : LsR (TxR false) marked (a :: Y) h₉ v₂ := (gl _).up lw₉ rM8
  have rB9 : LsR (LsR (TxR false)) (words.map (belowOf words)) (a :: Y) h₉ vB := (gll _).up lw₉ rB8
  have rE9 : LsR (LsR (TxR false)) (words.map (endsOf words)) (a :: Y) h₉ vE := (gll _).up lw₉ rE8
  have rP9 : RgR words.length (a :: Y) h₉ vP := (gr_rg _).up lw₉ rP8
  have hx₉ := (hx₈.imp fun u d _ _ r => (gl d).up lw₉ r).append (.one r₉)
  have rF : LsR (LsR (TxR false)) (fiveL words marked) Y h₉ (.ref a) := ⟨a, _, rfl, al.not na0, hl₉, hx₉.imp fun u d _ _ r => (gl d).up (Lw.sub fun b hb => by simp [hb]) r⟩
  refine wpAny_execs_cons (wpAny_Return_some (see_load (s := { s with heap := h₉, toks := t₉ }) (.loc rfl F₉.ns rfl) rfl (by decide) ?_))
  exact ⟨.ref a, h₉, t₉, rfl, rfl, F₉.kept, rF⟩
end
end Mine
end

section
set_option maxRecDepth 100000
set_option maxHeartbeats 4000000
namespace Mine
open PySem PySem.W PyProof.Rows PySem.Calls PySem.SeqAt

/-! a comprehension with two clauses -/
theorem two_turn1 (elt : Expr) (g0 : Comprehension) (target iter : Expr) (scope : Scope) (pos : Pos) (it acc : Value) (env : Env) :
    compTurn (.ListComp elt [g0, ⟨target, iter, [], 0⟩] scope pos) 1 it acc env = (standAt iter.pos >>= fun _ => pyNext it >>= fun r => match r with
      | none => pure (.done .next)
      | some v => letOwnedTupleGo target it v >>= fun _ => assign target env v >>= fun _ =>
        (eval elt env >>= fun x => call (.builtin "list.append") [acc, x] >>= fun _ => pure ()) >>= fun _ =>
          again (.compLoop (.ListComp elt [g0, ⟨target, iter, [], 0⟩] scope pos) 1 it acc env)) := by rfl
theorem two_turn0 (elt : Expr) (t0 i0 t1 i1 : Expr) (scope : Scope) (pos : Pos) (it acc : Value) (env : Env) :
    compTurn (.ListComp elt [⟨t0, i0, [], 0⟩, ⟨t1, i1, [], 0⟩] scope pos) 0 it acc env = (standAt i0.pos >>= fun _ => pyNext it >>= fun r => match r with
      | none => pure (.done .next)
      | some v => letOwnedTupleGo t0 it v >>= fun _ => assign t0 env v >>= fun _ =>
        eval i1 env >>= fun x => standAt i1.pos >>= fun _ => foldedSetIterable i1 env x >>= fun x => holding [x] (pyIter x) >>= fun it1 =>
          runOwn (.compStart (.ListComp elt [⟨t0, i0, [], 0⟩, ⟨t1, i1, [], 0⟩] scope pos) 1 it1 acc env) env >>= fun _ =>
          again (.compLoop (.ListComp elt [⟨t0, i0, [], 0⟩, ⟨t1, i1, [], 0⟩] scope pos) 0 it acc env)) := by rfl

section
variable {prog : Program} {w : World} {A : Around} {X Y : List Addr} {h : Heap} {env : Env} {pos : Pos} {RR : Result → Shared → Prop} {s : Shared}
abbrev nb (prog : Program) (w : World) (A : Around) (env : Env) (RR : Result → Shared → Prop) : Value → Shared → Prop := notedBy (model prog w) A env fun e s' => RR (.error e) s'

theorem two_loop1 {elt : Expr} {g0 : Comprehension} {target iter : Expr} {scope : Scope} {it acc : Value} (I : Nat → Shared → Prop)
    (turn : ∀ n s, I n s → wpAny (model prog w) A (pyNext it) (fun r s₁ => match r with
      | none => RR (.ok .next) s₁
      | some v => wpAny (model prog w) A (assign target env v) (fun _ s₂ => wpAny (model prog w) A (eval elt env) (fun x s₃ =>
          wpAny (model prog w) A (call (.builtin "list.append") [acc, x]) (fun _ s₄ => ∃ m, m < n ∧ I m s₄) (nb prog w A env RR) s₃)
          (nb prog w A env RR) s₂) (nb prog w A env RR) s₁) (nb prog w A env RR) s)
    (n : Nat) (h : I n s) (ht : ∀ v, letOwnedTupleGo target it v = pure () := by intro _; rfl) :
    codeAny (model prog w) A (.compLoop (.ListComp elt [g0, ⟨target, iter, [], 0⟩] scope pos) 1 it acc env) RR s := by
  refine codeAny_loop rfl I (fun n s hI => ?_) n h
  show wpAny _ _ ((compTurn (.ListComp elt [g0, ⟨target, iter, [], 0⟩] scope pos) 1 it acc env).onRaise (fun x => do noteFrame x env; theTreesLotGoes x)) _ _ s
  refine wpAny_noted ?_
  rw [two_turn1]
  refine wpAny_bind (wpAny_standAt (wpAny_bind (wpAny_mono (turn n s hI) (fun r s₁ h₁ => ?_) fun _ _ h' => h')))
  cases r with
  | none => exact wpAny_pure h₁
  | some v =>
    refine wpAny_bind (wpAny_of_eq (ht v) ?_)
    exact wpAny_bind (wpAny_mono h₁ (fun _ s₂ h₂ => wpAny_bind (wpAny_bind (wpAny_mono h₂ (fun x s₃ h₃ => wpAny_bind (wpAny_mono h₃
      (fun _ s₄ h₄ => wpAny_pure (wpAny_pure ⟨rfl, h₄⟩)) fun _ _ h' => h')) fun _ _ h' => h'))) fun _ _ h' => h')

theorem two_loop0 {elt t0 i0 t1 i1 : Expr} {scope : Scope} {it acc : Value} (I : Nat → Shared → Prop)
    (turn : ∀ n s, I n s → wpAny (model prog w) A (pyNext it) (fun r s₁ => match r with
      | none => RR (.ok .next) s₁
      | some v => wpAny (model prog w) A (assign t0 env v) (fun _ s₂ => wpAny (model prog w) A (eval i1 env) (fun x s₃ => wpAny (model prog w) A (pyIter x) (fun it1 s₄ =>
          codeAny (model prog w) A (.compStart (.ListComp elt [⟨t0, i0, [], 0⟩, ⟨t1, i1, [], 0⟩] scope pos) 1 it1 acc env) (fun r s₅ => match r with | .ok _ => ∃ m, m < n ∧ I m s₅ | .error e => cameBackBy (model prog w) A env (nb prog w A env RR) e s₅) s₄) (nb prog w A env RR) s₃)
          (nb prog w A env RR) s₂) (nb prog w A env RR) s₁) (nb prog w A env RR) s)
    (n : Nat) (h : I n s) (ht : ∀ v, letOwnedTupleGo t0 it v = pure () := by intro _; rfl) (hf : ∀ x, foldedSetIterable i1 env x = pure x) :
    codeAny (model prog w) A (.compLoop (.ListComp elt [⟨t0, i0, [], 0⟩, ⟨t1, i1, [], 0⟩] scope pos) 0 it acc env) RR s := by
  refine codeAny_loop rfl I (fun n s hI => ?_) n h
  show wpAny _ _ ((compTurn (.ListComp elt [⟨t0, i0, [], 0⟩, ⟨t1, i1, [], 0⟩] scope pos) 0 it acc env).onRaise (fun x => do noteFrame x env; theTreesLotGoes x)) _ _ s
  refine wpAny_noted ?_
  rw [two_turn0]
  refine wpAny_bind (wpAny_standAt (wpAny_bind (wpAny_mono (turn n s hI) (fun r s₁ h₁ => ?_) fun _ _ h' => h')))
  cases r with
  | none => exact wpAny_pure h₁
  | some v =>
    refine wpAny_bind (wpAny_of_eq (ht v) ?_)
    refine wpAny_bind (wpAny_mono h₁ (fun _ s₂ h₂ => wpAny_bind (wpAny_mono h₂ (fun x s₃ h₃ => ?_) fun _ _ h' => h')) fun _ _ h' => h')
    refine wpAny_bind (wpAny_standAt (wpAny_bind (wpAny_of_eq (hf x) (wpAny_bind (wpAny_holding (wpAny_mono h₃ (fun it1 s₄ h₄ => ?_) fun _ _ h' => h'))))))
    refine wpAny_bind (wpAny_runOwn (codeAny_mono h₄ fun r s₅ h₅ => ?_))
    cases r with
    | ok f => exact wpAny_pure ⟨rfl, h₅⟩
    | error e => exact h₅

theorem two_start1 {elt : Expr} {g0 : Comprehension} {target iter : Expr} {ifs : List Expr} {scope : Scope} {it acc : Value}
    (h0 : codeAny (model prog w) A (.compLoop (.ListComp elt [g0, ⟨target, iter, ifs, 0⟩] scope pos) 1 it acc env) RR s)
    (h : wpAny (model prog w) A (pyIter it) (fun it' s' => codeAny (model prog w) A (.compLoop (.ListComp elt [g0, ⟨target, iter, ifs, 0⟩] scope pos) 1 it' acc env) RR s') (nb prog w A env RR) s) :
    codeAny (model prog w) A (.compStart (.ListComp elt [g0, ⟨target, iter, ifs, 0⟩] scope pos) 1 it acc env) RR s := by
  refine codeAny_of_tree ?_
  show wpAny _ _ ((compStart (.ListComp elt [g0, ⟨target, iter, ifs, 0⟩] scope pos) 1 it acc env).onRaise (fun x => do noteFrame x env; standAt theWindowsPlace)) _ _ s
  refine wpAny_notedAt ?_
  unfold compStart
  show wpAny _ _ (ask >>= _) _ _ s
  refine wpAny_bind (wpAny_askSetting (wpAny_ite ?_))
  split
  · first
      | exact wpAny_bind (wpAny_pure (wpAny_pure (And.intro rfl h0)))
      | exact wpAny_pure (And.intro rfl h0)
  · first
      | exact wpAny_bind (wpAny_rule (wpAny_bind (wpAny_standAt (wpAny_bind (wpAny_mono h (fun it' s' h' => wpAny_pure (And.intro rfl h')) fun _ _ x => x)))))
      | (refine wpAny_bind (wpAny_rule ?_); show wpAny _ _ (standAt iter.pos >>= _) _ _ s; exact wpAny_bind (wpAny_standAt (wpAny_bind (wpAny_mono h (fun it' s' h' => wpAny_pure (And.intro rfl h')) fun _ _ x => x))))

def TxV (u : Value) (l : List Nat) : Prop := ∃ t, u = .str ⟨l.toArray⟩ t
theorem two_inner {elt : Expr} {g0 : Comprehension} {iter : Expr} {x y : Str} {py : Pos} {scope : Scope} {cl : List (Str × Addr)} {C D I : Addr} {fp : List Addr} {P : Nat → Value → Prop} {St : Nat → Heap → Prop} {n : Nat} {f : Nat → List Nat} {vs0 : List Value} {m : Str → Option Value} {v : Value}
    (hk : scope.kind = .function) (hy : scope.names.lookup y = some .local) (hxy : x ≠ y) (W : Walks prog w A I fp [I] n P St) (st : St 0 s.heap) (hfp : ∀ b ∈ fp, b ≠ D ∧ b ≠ C) (hP : ∀ i u, i < n → P i u → ∃ t, u = .int i t)
    (hDC : D ≠ C) (hIC : I ≠ C) (hID : I ≠ D) (hC : s.heap.Ns C m) (hmx : m x = some v) (hD : s.heap.PlainList D vs0.toArray) (sz : vs0.length + n ≤ sizeLine)
    (helt : ∀ j u h' tk m' (E : Value → Shared → Prop) (Q : Value → Shared → Prop), j < n → h'.Ns C m' → m' x = some v → m' y = some u → (∃ t, u = .int j t) → (∀ b o, b ≠ I → b ≠ C → b ≠ D → s.heap.get? b = some o → h'.get? b = some o) →
      (∃ o, h'.get? D = some o) → (∀ z h'' tk', Kp h' h'' → TxV z (f j) → Q z { s with heap := h'', toks := tk' }) → wpAny (model prog w) A (eval elt (cenvOf scope cl C env)) Q E { s with heap := h', toks := tk })
    (hR : ∀ h' tk vs m', (∀ b o, b ≠ I → b ≠ C → b ≠ D → s.heap.get? b = some o → h'.get? b = some o) → h'.Ns C m' → h'.PlainList D (vs0 ++ vs).toArray → All2 TxV vs ((List.range n).map f) → RR (.ok .next) { s with heap := h', toks := tk }) :
    codeAny (model prog w) A (.compLoop (.ListComp elt [g0, ⟨.Name y py, iter, [], 0⟩] scope pos) 1 (.ref I) (.ref D) (cenvOf scope cl C env)) RR s := by
  refine two_loop1 (fun k s' => ∃ i h' tk vs m', s' = { s with heap := h', toks := tk } ∧ i ≤ n ∧ k = n + 1 - i ∧ St i h' ∧ (∀ b o, b ≠ I → b ≠ C → b ≠ D → s.heap.get? b = some o → h'.get? b = some o) ∧ h'.Ns C m' ∧ m' x = some v ∧ h'.PlainList D (vs0 ++ vs).toArray ∧ All2 TxV vs ((List.range i).map f)) ?_ (n + 1)
    ⟨0, s.heap, s.toks, [], m, rfl, Nat.zero_le _, rfl, st, fun _ _ _ _ _ e => e, hC, hmx, by simpa using hD, by simpa using All2.nil⟩
  rintro k s' ⟨i, H, tk, vs, m', rfl, hi, rfl, hst, hk0, hN, hm', hL, hV⟩
  have hVl : vs.length = i := by rw [hV.length]; simp
  by_cases hlt : i < n
  · refine W.item i _ _ _ hlt hst fun u h₁ tk₁ hPu hst₁ hk₁ => ?_
    have hk₁' : ∀ b o, b ≠ I → H.get? b = some o → h₁.get? b = some o := fun b o hb e => hk₁ b o (by simpa using hb) e
    have hN₁ : h₁.Ns C m' := hN.at' fun o e => hk₁' C o (Ne.symm hIC) e
    refine wpAny_assign_Name (wpAny_storeName_local (s := { s with heap := h₁, toks := tk₁ }) (lookup_relabel_local hy) hN₁ (fun h₂ hn₂ hs₂ => ?_) (by simp [cenvOf, relabel, hk]))
    have kb₂ : ∀ b o, b ≠ I → b ≠ C → H.get? b = some o → h₂.get? b = some o := fun b o h1 h2 e => hs₂.extBut b o h2 (hk₁' b o h1 e)
    have hst₂ : St (i + 1) h₂ := W.frame _ _ _ hst₁ fun b hb o e => hs₂.extBut b o (hfp b hb).2 e
    have hL₂ : h₂.PlainList D (vs0 ++ vs).toArray := hL.at fun o e => kb₂ D o (Ne.symm hID) hDC e
    have hmx₂ : (fun z => if z = y then some u else m' z) x = some v := by simp [hxy, hm']
    obtain ⟨oD, eD⟩ : ∃ o, h₂.get? D = some o := by obtain ⟨n', e⟩ := hL₂; exact ⟨_, e⟩
    refine helt i u h₂ _ _ _ _ hlt hn₂ (by simp [hxy, hm']) (by simp) (hP i u hlt hPu) (fun b o h1 h2 h3 e => kb₂ b o h1 h2 (hk0 b o h1 h2 h3 e)) ⟨oD, eD⟩ fun z h₃ tk₃ kp₃ hz => ?_
    have hL₃ : h₃.PlainList D (vs0 ++ vs).toArray := hL₂.at fun o e => kp₃ D o e
    refine wpAny_list_append_plain (s := { s with heap := h₃, toks := tk₃ }) (hsz := by simp only [List.size_toArray, List.length_append]; omega) hL₃ fun h₄ hl₄ hs₄ => ?_
    have hn₄ : h₄.Ns C _ := hn₂.at' fun o e => hs₄.extBut C o (Ne.symm hDC) (kp₃ C o e)
    refine ⟨_, ?_, i + 1, h₄, tk₃, vs ++ [z], _, rfl, hlt, rfl, ?_, fun b o h1 h2 h3 e => hs₄.extBut b o h3 (kp₃ b o (kb₂ b o h1 h2 (hk0 b o h1 h2 h3 e))), hn₄, ?_, by simpa using hl₄, ?_⟩
    · omega
    · exact W.frame _ _ _ hst₂ fun b hb o e => hs₄.extBut b o (hfp b hb).1 (kp₃ b o e)
    · simp [hxy, hm']
    · rw [List.range_succ, List.map_append]
      exact hV.snoc hz
  · have hin : i = n := by omega
    subst hin
    refine W.done _ _ _ hst fun h₁ tk₁ hk₁ => ?_
    have hk₁' : ∀ b o, b ≠ I → H.get? b = some o → h₁.get? b = some o := fun b o hb e => hk₁ b o (by simpa using hb) e
    exact hR h₁ tk₁ vs m' (fun b o h1 h2 h3 e => hk₁' b o h1 (hk0 b o h1 h2 h3 e)) (hN.at' fun o e => hk₁' C o (Ne.symm hIC) e) (hL.at fun o e => hk₁' D o (Ne.symm hID) e) hV
end
end Mine
end

section
set_option maxRecDepth 100000
set_option maxHeartbeats 4000000
namespace Mine
open PySem PySem.W PyProof.Rows PySem.Calls PySem.SeqAt

section
variable {prog : Program} {w : World} {A : Around} {X : List Addr} {h : Heap} {env : Env} {pos : Pos}
theorem ev_two {elt iter0 iter1 : Expr} {x y : Str} {px py : Pos} {scope : Scope} {cl : List (Str × Addr)} {ds : List (List Nat)} (n : List Nat → Nat) (f : List Nat → Nat → List Nat)
    (hA : A.handled = none) (hsrc : Ev prog w A X h (eval iter0 env) (LsR (TxR false) ds))
    (hit1 : ∀ d ∈ ds, ∀ Z h' v C, Le X h Z h' → Al Z h' → TxR false d Z h' v → See (cenvOf scope cl C env) h' x v → Ev prog w A Z h' (eval iter1 (cenvOf scope cl C env)) (RgR (n d)))
    (helt : ∀ d ∈ ds, ∀ j, j < n d → ∀ Z h' v u C, Le X h Z h' → Al Z h' → TxR false d Z h' v → See (cenvOf scope cl C env) h' x v → See (cenvOf scope cl C env) h' y u → IntR j Z h' u → Ev prog w A Z h' (eval elt (cenvOf scope cl C env)) (TxR false (f d j)))
    (hn : ∀ d ∈ ds, n d ≤ 1000000) (hlen : ∀ i, ((ds.take i).flatMap fun d => (List.range (n d)).map (f d)).length ≤ 1000000)
    (hclos : closureFor scope env = pure cl) (hk : scope.kind = .function) (hx : scope.names.lookup x = some .local) (hy : scope.names.lookup y = some .local) (hxy : x ≠ y)
    (hnames : ∀ x ∈ scope.names, x.2 = .local → scope.names.lookup x.1 = some .local) (hs : ∀ x, foldedSetIterable iter0 env x = pure x) (hs1 : ∀ C x, foldedSetIterable iter1 (cenvOf scope cl C env) x = pure x) :
    Ev prog w A X h (eval (.ListComp elt [⟨.Name x px, iter0, [], 0⟩, ⟨.Name y py, iter1, [], 0⟩] scope pos) env) (LsR (TxR false) (ds.flatMap fun d => (List.range (n d)).map (f d))) := fun Y s al le => by
  rw [eval_ListComp]
  refine wpAny_comprehension_free (use := none) rfl hs hclos hk hnames (hsrc.use al le fun xv h₁ t₁ k₁ r0 => (ev_iter_list hA (gr_tx false) r0).here (s := { s with heap := h₁, toks := t₁ }) (al.up k₁) fun it h₂ t₂ k₂ hI => ?_)
  obtain ⟨I, fp, P, St, rfl, nI, W, st, hfp, hlv, hP⟩ := hI
  have ltI : I < h₂.objs.size := by obtain ⟨o, e⟩ := hlv _ _ st; exact Heap.lt_size e
  have al1 := al.up k₁
  have le1 : Le X h Y h₁ := le.step k₁
  refine wpAny_newObj_type (newCompEnv (x := x) (s := { s with heap := h₂.push { cls := .type "list", data := .seq ([] : List Value).toArray }, toks := t₂ }) fun h₄ kp₄ O₄ => ?_)
  have e1 : (h₂.push { cls := .type "list", data := .seq ([] : List Value).toArray }).objs.size = h₂.objs.size + 1 := Heap.size_push _ _
  dsimp only at kp₄ O₄ ⊢
  rw [e1] at O₄
  simp only [e1]
  have kp : Kp h₁ h₄ := (k₂.trans (kp_push _ _)).trans kp₄
  have kp2 : Kp h₂ h₄ := (kp_push _ _).trans kp₄
  have nD : h₁.get? h₂.objs.size = none := k₂.none (get_size _)
  have nC : h₁.get? (h₂.objs.size + 1) = none := k₂.none (get_ge (Nat.le_succ _))
  have hD0 : h₄.PlainList h₂.objs.size #[] := ⟨0, kp₄ _ _ (get_push _ _ rfl)⟩
  have hDC : h₂.objs.size ≠ h₂.objs.size + 1 := Nat.ne_of_lt (Nat.lt_succ_self _)
  have hID : I ≠ h₂.objs.size := Nat.ne_of_lt ltI
  have hIC : I ≠ h₂.objs.size + 1 := Nat.ne_of_lt (Nat.lt_succ_of_lt ltI)
  have st4 : St 0 h₄ := W.frame _ _ _ st fun b _ o e => kp2 b o e
  obtain ⟨m₀, hm₀⟩ := O₄.ns
  generalize h₂.objs.size = D at *
  generalize hCC : D + 1 = C at *
  have off : ∀ b o, h₁.get? b = some o → b ≠ I ∧ b ≠ C ∧ b ≠ D := fun b o e =>
    ⟨fun q => absurd e (by rw [q, nI]; exact nofun), fun q => absurd e (by rw [q, nC]; exact nofun), fun q => absurd e (by rw [q, nD]; exact nofun)⟩
  have loop : ∀ s₃ : Shared, s₃ = { s with heap := h₄, toks := t₂ } → codeAny (model prog w) A (.compLoop (.ListComp elt [⟨.Name x px, iter0, [], 0⟩, ⟨.Name y py, iter1, [], 0⟩] scope pos) 0 (.ref I) (.ref D) (cenvOf scope cl C env))
      (compPost (model prog w) A (fun _ _ => False) none (fun v s' => ∃ h' tk, s' = { s with heap := h', toks := tk } ∧ Kp s.heap h' ∧ LsR (TxR false) (ds.flatMap fun d => (List.range (n d)).map (f d)) Y h' v) (.ref D) C) s₃ := by
    rintro s₃ rfl
    refine two_loop0 (fun k s' => ∃ i h' tk vs m, s' = { s with heap := h', toks := tk } ∧ i ≤ ds.length ∧ k = ds.length + 1 - i ∧ St i h' ∧ Kp h₁ h' ∧ h'.Ns C m ∧ h'.PlainList D vs.toArray ∧
      All2 TxV vs ((ds.take i).flatMap fun d => (List.range (n d)).map (f d))) ?_ (ds.length + 1)
      ⟨0, h₄, t₂, [], m₀, rfl, Nat.zero_le _, rfl, st4, kp, hm₀, hD0, by simpa using All2.nil⟩ (fun _ => rfl) (hs1 C)
    rintro k s' ⟨i, H, tk, vs, m, rfl, hi, rfl, hst, hk0, hN, hL, hV⟩
    by_cases hlt : i < ds.length
    · refine W.item i _ _ _ hlt hst fun v h₅ t₅ hPv hst₅ hk₅ => ?_
      have hk₅' : ∀ b o, b ≠ I → H.get? b = some o → h₅.get? b = some o := fun b o hb e => hk₅ b o (by simpa using hb) e
      have hd : ds[i]? = some ds[i] := List.getElem?_eq_getElem hlt
      have hmem : ds[i] ∈ ds := List.getElem_mem hlt
      have hN₅ : h₅.Ns C m := hN.at' fun o e => hk₅' C o (Ne.symm hIC) e
      have kp₅ : Kp h₁ h₅ := fun b o e => hk₅' b o (off b o e).1 (hk0 b o e)
      refine wpAny_assign_Name (wpAny_storeName_local (s := { s with heap := h₅, toks := t₅ }) (lookup_relabel_local hx) hN₅ (fun h₆ hn₆ hs₆ => ?_) (by simp [cenvOf, relabel, hk]))
      have kp₆ : Kp h₁ h₆ := fun b o e => hs₆.extBut b o (off b o e).2.1 (kp₅ b o e)
      have hst₆ : St (i + 1) h₆ := W.frame _ _ _ hst₅ fun b hb o e => hs₆.extBut b o (by
        rcases hfp b hb with rfl | ⟨_, o', q, _⟩
        · exact hIC
        · exact (off b o' q).2.1) e
      have hL₆ : h₆.PlainList D vs.toArray := hL.at fun o e => hs₆.extBut D o hDC (hk₅' D o (Ne.symm hID) e)
      have aD₆ : ∃ o, h₆.get? D = some o := by obtain ⟨n', e⟩ := hL₆; exact ⟨_, e⟩
      have alZ : Al (D :: Y) h₆ := by obtain ⟨o, e⟩ := aD₆; exact (al1.up kp₆).cons e
      have leZ : Le Y h₁ (D :: Y) h₆ := Le.add kp₆ nD
      have rv : TxR false ds[i] (D :: Y) h₆ v := hP i v _ hPv hd
      have Sx₆ : See (cenvOf scope cl C env) h₆ x v := .loc (lookup_relabel_local hx) hn₆ (by simp)
      refine (hit1 _ hmem (D :: Y) h₆ v C (le1.trans leZ) alZ rv Sx₆).here (s := { s with heap := h₆, toks := _ }) alZ fun xr h₇ t₇ k₇ rr => ?_
      refine (ev_iter_range hA (by have := hn _ hmem; omega) rr).here (s := { s with heap := h₇, toks := t₇ }) (alZ.up k₇) fun it1 h₈ t₈ k₈ hI1 => ?_
      obtain ⟨I1, fp1, P1, St1, rfl, nI1, W1, st1, hfp1, hlv1, hP1⟩ := hI1
      have k₆₈ : Kp h₆ h₈ := k₇.trans k₈
      have hn₇ : h₇.Ns C _ := hn₆.keeps k₇
      have hn₈ : h₈.Ns C _ := hn₆.keeps k₆₈
      have hL₈ : h₈.PlainList D vs.toArray := hL₆.at fun o e => k₆₈ D o e
      have hI1C : I1 ≠ C := by rintro rfl; obtain ⟨o, e, _⟩ := ns_notFz hn₇; rw [nI1] at e; cases e
      have hI1D : I1 ≠ D := by rintro rfl; obtain ⟨o, e⟩ := aD₆; rw [k₇ _ _ e] at nI1; cases nI1
      have hI1I : I ≠ I1 := by rintro rfl; obtain ⟨o, e⟩ := hlv _ _ hst₆; rw [k₇ _ _ e] at nI1; cases nI1
      have off1 : ∀ b o, h₁.get? b = some o → b ≠ I1 := fun b o e q => by have := k₇ b o (kp₆ b o e); rw [q, nI1] at this; cases this
      rw [List.length_range] at W1
      have vl : vs.length ≤ 1000000 := by rw [hV.length]; exact hlen i
      have inner : ∀ RR', RR' = (fun (r : Result) (s₅ : Shared) => match r with | .ok _ => ∃ m, m < ds.length + 1 - i ∧ (∃ i h' tk vs m', s₅ = { s with heap := h', toks := tk } ∧ i ≤ ds.length ∧ m = ds.length + 1 - i ∧ St i h' ∧ Kp h₁ h' ∧ h'.Ns C m' ∧ h'.PlainList D vs.toArray ∧
          All2 TxV vs ((ds.take i).flatMap fun d => (List.range (n d)).map (f d))) | .error e => cameBackBy (model prog w) A (cenvOf scope cl C env) (nb prog w A (cenvOf scope cl C env) (compPost (model prog w) A (fun _ _ => False) none (fun v s' => ∃ h' tk, s' = { s with heap := h', toks := tk } ∧ Kp s.heap h' ∧ LsR (TxR false) (ds.flatMap fun d => (List.range (n d)).map (f d)) Y h' v) (.ref D) C)) e s₅) →
          codeAny (model prog w) A (.compLoop (.ListComp elt [⟨.Name x px, iter0, [], 0⟩, ⟨.Name y py, iter1, [], 0⟩] scope pos) 1 (.ref I1) (.ref D) (cenvOf scope cl C env)) RR' { s with heap := h₈, toks := t₈ } := by
        rintro RR' rfl
        refine two_inner (s := { s with heap := h₈, toks := t₈ }) (x := x) (n := n ds[i]) (f := f ds[i]) (v := v) hk hy hxy W1 st1 (fun b hb => ?_) (fun j u hj hPj => ?_) (Ne.symm (Ne.symm hDC)) hI1C hI1D hn₈ (by simp) hL₈ (by have := hn _ hmem; rw [sizeLine_eq]; omega) ?_ ?_
        · rcases hfp1 b hb with rfl | ⟨hZ, o, q, hz⟩
          · exact ⟨hI1D, hI1C⟩
          · refine ⟨fun q' => hZ (by simp [q']), ?_⟩
            rintro rfl
            obtain ⟨o', e', f'⟩ := ns_notFz hn₇
            rw [e'] at q; injection q with q; subst q; exact f' hz
        · exact hP1 j u j hPj (by simp [hj])
        · intro j u h' tk' m' E' Q' hj hn' hmx hmy hu kb _ hq
          have kp' : Kp h₁ h' := fun b o e => kb b o (off1 b o e) (off b o e).2.1 (off b o e).2.2 (k₆₈ b o (kp₆ b o e))
          exact (helt _ hmem j hj Y h' v u C (le1.trans (Le.of_kp kp')) (al1.up kp') rv (.loc (lookup_relabel_local hx) hn' hmx) (.loc (lookup_relabel_local hy) hn' hmy) hu).here (s := { s with heap := h', toks := tk' }) (al1.up kp') fun z h'' tk'' kp'' hz => hq z h'' tk'' kp'' hz
        · intro h' tk' us m' kb hn' hl' hus
          have kp' : Kp h₁ h' := fun b o e => kb b o (off1 b o e) (off b o e).2.1 (off b o e).2.2 (k₆₈ b o (kp₆ b o e))
          refine ⟨ds.length + 1 - (i + 1), by omega, i + 1, h', tk', vs ++ us, m', rfl, hlt, rfl, ?_, kp', hn', hl', ?_⟩
          · refine W.frame _ _ _ hst₆ fun b hb o e => ?_
            rcases hfp b hb with rfl | ⟨_, o', q, _⟩
            · exact kb b o hI1I hIC hID (k₆₈ b o e)
            · exact kb b o (off1 b o' q) (off b o' q).2.1 (off b o' q).2.2 (k₆₈ b o e)
          · rw [List.take_add_one, hd, List.flatMap_append]
            exact hV.append (by simpa using hus)
      exact two_start1 (inner _ rfl) (W1.self 0 _ _ _ st1 (inner _ rfl))
    · have hin : i = ds.length := by omega
      subst hin
      refine W.done _ _ _ hst fun h₅ t₅ hk₅ => ?_
      have hk₅' : ∀ b o, b ≠ I → H.get? b = some o → h₅.get? b = some o := fun b o hb e => hk₅ b o (by simpa using hb) e
      have hN₅ : h₅.Ns C m := hN.at' fun o e => hk₅' C o (Ne.symm hIC) e
      rw [List.take_length] at hV
      refine ⟨m, hN₅, fun h₆ hs₆ => ⟨h₆, t₅, rfl, k₁.trans fun b o e => hs₆.extBut b o (off b o e).2.1 (hk₅' b o (off b o e).1 (hk0 b o e)), D, vs, rfl, al1.not nD, hL.at fun o e => hs₆.extBut D o hDC (hk₅' D o (Ne.symm hID) e), hV.imp fun u d _ _ r => r⟩⟩
  exact codeAny_compStart_list (loop _ rfl) (W.self 0 _ _ _ st4 (loop _ rfl))
end
end Mine
end

section
set_option maxRecDepth 100000
set_option maxHeartbeats 4000000
namespace Mine

/-! first of equal ones, by places -/
def firstL {α : Type} [DecidableEq α] (dv : α) (l : List α) : List α := ((List.range l.length).filter fun k => !decide (l.getD k dv ∈ l.take k)).map fun k => l.getD k dv
theorem getD_at {α : Type} (l : List α) (dv : α) {k : Nat} (h : k < l.length) : l.getD k dv = l[k] := by simp [h]
theorem mem_firstL {α : Type} [DecidableEq α] (dv : α) (l : List α) (x : α) : x ∈ firstL dv l ↔ x ∈ l := by
  unfold firstL
  rw [List.mem_map]
  constructor
  · rintro ⟨k, hk, rfl⟩
    have := List.mem_range.mp (List.mem_filter.mp hk).1
    rw [getD_at l dv this]; exact List.getElem_mem _
  · intro hx
    have hj : l.idxOf x < l.length := List.idxOf_lt_length_iff.mpr hx
    have hjd : l[l.idxOf x] = x := List.getElem_idxOf hj
    refine ⟨l.idxOf x, List.mem_filter.mpr ⟨List.mem_range.mpr hj, ?_⟩, by rw [getD_at l dv hj, hjd]⟩
    rw [getD_at l dv hj, hjd]
    have : x ∉ l.take (l.idxOf x) := by
      intro hm
      obtain ⟨j, hj', e⟩ := List.mem_iff_getElem.mp hm
      rw [List.length_take] at hj'
      rw [List.getElem_take] at e
      have := List.not_of_lt_findIdx (p := (· == x)) (xs := l) (i := j) (by show j < l.idxOf x; omega)
      simp [e] at this
    simp [this]
theorem nodup_firstL {α : Type} [DecidableEq α] (dv : α) (l : List α) : (firstL dv l).Nodup := by
  unfold firstL
  rw [List.Nodup, List.pairwise_map, List.pairwise_filter]
  refine (List.pairwise_lt_range (n := l.length)).imp_of_mem fun {i j} hi hj hlt _ hp q => ?_
  have hi' := List.mem_range.mp hi
  have hj' := List.mem_range.mp hj
  have : l.getD j dv ∉ l.take j := by simpa using hp
  refine this ?_
  rw [← q, getD_at l dv hi']
  exact List.mem_iff_getElem.mpr ⟨i, by rw [List.length_take]; omega, by rw [List.getElem_take]⟩

/-! a sorted one of equal items -/
theorem sorted_ex {α : Type} [LT α] [DecidableLT α] (tri : ∀ a b : α, a < b ∨ a = b ∨ b < a) (trans : ∀ a b c : α, a < b → b < c → a < c) : ∀ l : List α, l.Nodup → ∃ es : List α, es.Perm l ∧ es.Pairwise (· < ·)
  | [], _ => ⟨[], .refl _, .nil⟩
  | x :: l, h => by
    obtain ⟨es, hp, hs⟩ := sorted_ex tri trans l (List.nodup_cons.mp h).2
    have hx : ∀ y ∈ es, y ≠ x := fun y hy q => (List.nodup_cons.mp h).1 (q ▸ hp.mem_iff.mp hy)
    refine ⟨es.filter (fun y => decide (y < x)) ++ x :: es.filter (fun y => !decide (y < x)), ?_, ?_⟩
    · refine List.perm_middle.trans ?_
      exact ((List.filter_append_perm (fun y => decide (y < x)) es).trans hp).cons x
    · rw [List.pairwise_append, List.pairwise_cons]
      have up : ∀ y ∈ es.filter (fun y => !decide (y < x)), x < y := fun y hy => by
        obtain ⟨h1, h2⟩ := List.mem_filter.mp hy
        rcases tri y x with q | q | q
        · simp [q] at h2
        · exact absurd q (hx y h1)
        · exact q
      refine ⟨hs.filter _, ⟨up, hs.filter _⟩, fun a ha b hb => ?_⟩
      have ha' : a < x := by simpa using (List.mem_filter.mp ha).2
      rcases List.mem_cons.mp hb with rfl | hb
      · exact ha'
      · exact trans _ _ _ ha' (up b hb)
theorem ltri {α : Type} [LT α] (tri : ∀ a b : α, a < b ∨ a = b ∨ b < a) : ∀ l m : List α, l < m ∨ l = m ∨ m < l
  | [], [] => .inr (.inl rfl)
  | [], _ :: _ => .inl (by simp)
  | _ :: _, [] => .inr (.inr (by simp))
  | a :: l, b :: m => by
    simp only [List.cons_lt_cons_iff, List.cons.injEq]
    rcases tri a b with q | q | q
    · exact .inl (.inl q)
    · subst q
      rcases ltri tri l m with r | r | r
      · exact .inl (.inr ⟨rfl, r⟩)
      · exact .inr (.inl ⟨rfl, r⟩)
      · exact .inr (.inr (.inr ⟨rfl, r⟩))
    · exact .inr (.inr (.inl q))
theorem ltrans {α : Type} [LT α] (trans : ∀ a b c : α, a < b → b < c → a < c) : ∀ l m n : List α, l < m → m < n → l < n
  | _, [], _, h, _ => absurd h (by simp)
  | _, _ :: _, [], _, h => absurd h (by simp)
  | [], _ :: _, _ :: _, _, _ => by simp
  | a :: l, b :: m, c :: n, h1, h2 => by
    simp only [List.cons_lt_cons_iff] at h1 h2 ⊢
    rcases h1 with q | ⟨rfl, q⟩
    · rcases h2 with r | ⟨rfl, r⟩
      · exact .inl (trans _ _ _ q r)
      · exact .inl q
    · rcases h2 with r | ⟨rfl, r⟩
      · exact .inl r
      · exact .inr ⟨rfl, ltrans trans l m n q r⟩
theorem ntri (a b : Nat) : a < b ∨ a = b ∨ b < a := by omega
theorem ntrans (a b c : Nat) : a < b → b < c → a < c := by omega
theorem sorted_sets (l : List (List Tx)) (h : l.Nodup) : ∃ es : List (List Tx), es.Perm l ∧ es.Pairwise (· < ·) :=
  sorted_ex (ltri (ltri ntri)) (ltrans (ltrans ntrans)) l h

theorem eraseAll_perm {α : Type} [DecidableEq α] : ∀ (fs ss : List α), ss.Perm fs → eraseAll ss fs = []
  | [], ss, h => List.perm_nil.mp h
  | f :: fs, ss, h => by
    show eraseAll (ss.erase f) fs = []
    refine eraseAll_perm fs _ ?_
    have := h.erase f
    simpa using this
theorem perm_of {α : Type} [DecidableEq α] {l m : List α} (h1 : l.Nodup) (h2 : m.Nodup) (h : ∀ a, a ∈ l ↔ a ∈ m) : l.Perm m := (List.perm_ext_iff_of_nodup h1 h2).mpr h

/-! the sets that come -/
section
variable (Es : List Tx) (K : List Tx → List Tx) (first : List Tx)
theorem foldl_addNew_pre {α : Type} [DecidableEq α] : ∀ (ds acc : List α), acc <+: ds.foldl addNew acc
  | [], acc => List.prefix_refl _
  | d :: ds, acc => by
    refine List.IsPrefix.trans ?_ (foldl_addNew_pre ds (addNew acc d))
    unfold addNew; split
    · exact List.prefix_refl _
    · exact List.prefix_append _ _
theorem foldl_addNew_nd {α : Type} [DecidableEq α] : ∀ (ds acc : List α), (acc ++ ds).Nodup → ds.foldl addNew acc = acc ++ ds
  | [], acc, _ => by simp
  | d :: ds, acc, h => by
    have hd : d ∉ acc := fun q => by
      rw [List.nodup_append] at h
      exact h.2.2 d q d (by simp) rfl
    rw [List.foldl_cons, addNew, if_neg hd, foldl_addNew_nd ds (acc ++ [d]) (by simpa using h)]
    simp
theorem dedupL_pre {α : Type} [DecidableEq α] {l : List α} (h : l.Nodup) (m : List α) : l <+: dedupL (l ++ m) := by
  unfold dedupL
  rw [List.foldl_append, foldl_addNew_nd l [] (by simpa using h)]
  exact foldl_addNew_pre m _
theorem s11_nodup (n : Nat) : (sets11 Es K first n).Nodup := by
  induction n with
  | zero => simp [sets11]
  | succ n ih =>
    rw [sets11_succ, step11]
    split
    · exact nodup_dedupL _
    · exact ih
theorem s11_pre1 (n : Nat) : sets11 Es K first n <+: sets11 Es K first (n + 1) := by
  rw [sets11_succ, step11]
  split
  · exact dedupL_pre (s11_nodup Es K first n) _
  · exact List.prefix_refl _
theorem s11_pre {n m : Nat} (h : n ≤ m) : sets11 Es K first n <+: sets11 Es K first m := by
  induction m with
  | zero => rw [Nat.le_zero.mp h]; exact List.prefix_refl _
  | succ m ih =>
    rcases Nat.lt_or_ge n (m + 1) with q | q
    · exact (ih (by omega)).trans (s11_pre1 Es K first m)
    · rw [show n = m + 1 by omega]; exact List.prefix_refl _
theorem s11_stop {j : Nat} (h : (sets11 Es K first j).length ≤ j) (m : Nat) : sets11 Es K first (j + m) = sets11 Es K first j := by
  induction m with
  | zero => rfl
  | succ m ih =>
    rw [← Nat.add_assoc, sets11_succ, ih, step11, List.getElem?_eq_none (by omega)]
theorem s11_closed {n : Nat} (hn : (sets11 Es K first n).length ≤ n) {S : List Tx} (hS : S ∈ sets11 Es K first n) : K S ∈ sets11 Es K first n ∧ (Es.filter fun x => decide (x ∉ S)) ∈ sets11 Es K first n := by
  obtain ⟨j, hj, rfl⟩ := List.mem_iff_getElem.mp hS
  have hjn : j < n := by omega
  have hjj : j < (sets11 Es K first j).length := by
    rcases Nat.lt_or_ge j (sets11 Es K first j).length with q | q
    · exact q
    · have := s11_stop Es K first q (n - j)
      rw [show j + (n - j) = n by omega] at this
      rw [this] at hj; omega
  have e : (sets11 Es K first j)[j] = (sets11 Es K first n)[j] := (s11_pre Es K first (Nat.le_of_lt hjn)).getElem hjj
  have sub : ∀ x ∈ sets11 Es K first (j + 1), x ∈ sets11 Es K first n := fun x hx => (s11_pre Es K first hjn).subset hx
  have st : sets11 Es K first (j + 1) = dedupL (sets11 Es K first j ++ [K (sets11 Es K first j)[j], Es.filter fun x => decide (x ∉ (sets11 Es K first j)[j])]) := by
    rw [sets11_succ, step11, List.getElem?_eq_getElem hjj]
  rw [← e]
  exact ⟨sub _ (by rw [st, mem_dedupL]; simp), sub _ (by rw [st, mem_dedupL]; simp)⟩
theorem s11_first (n : Nat) : first ∈ sets11 Es K first n := (s11_pre Es K first (Nat.zero_le n)).subset (by simp [sets11])
theorem s11_in {U : List (List Tx)} (h0 : first ∈ U) (hK : ∀ S ∈ U, K S ∈ U) (hc : ∀ S ∈ U, (Es.filter fun x => decide (x ∉ S)) ∈ U) (n : Nat) : ∀ S ∈ sets11 Es K first n, S ∈ U := by
  induction n with
  | zero => intro S hS; simp [sets11] at hS; rw [hS]; exact h0
  | succ n ih =>
    intro S hS
    rw [sets11_succ, step11] at hS
    split at hS
    · rename_i T hT
      have hT' := ih T (List.mem_of_getElem? hT)
      rw [mem_dedupL, List.mem_append] at hS
      rcases hS with hS | hS
      · exact ih S hS
      · rcases List.mem_cons.mp hS with rfl | hS
        · exact hK T hT'
        · rw [List.mem_singleton.mp hS]; exact hc T hT'
    · exact ih S hS
end
end Mine
end

section
set_option maxRecDepth 100000
set_option maxHeartbeats 4000000
namespace Mine

def W15s : List Tx := [[], [97], [97, 97], [97, 97, 97], [97, 97, 98], [97, 98], [97, 98, 97], [97, 98, 98], [98], [98, 97], [98, 97, 97], [98, 97, 98], [98, 98], [98, 98, 97], [98, 98, 98]]
theorem w15s_srt : (W15s.map pth).Pairwise (· < ·) := by decide
theorem w15s_nd : W15s.Nodup := by decide
theorem w15s_sub : ∀ w ∈ W15s, w ∈ W15 := by decide
theorem w15s_sup : ∀ w ∈ W15, w ∈ W15s := by decide
theorem pth_inj : ∀ a ∈ W15, ∀ b ∈ W15, pth a = pth b → a = b := by decide
theorem pth_pre : ∀ a ∈ W15, ∀ b ∈ W15, (pth a).isPrefixOf (pth b) = a.isPrefixOf b := by decide
theorem w15_sign : ∀ w ∈ W15, ∀ c ∈ w, c = 97 ∨ c = 98 := by decide
theorem isPre {a b : Tx} : a.isPrefixOf b = true ↔ a <+: b := List.isPrefixOf_iff_prefix

structure Tr (T : List Tx) : Prop where
  sub : ∀ w ∈ T, w ∈ W15
  nd : T.Nodup
  nil : [] ∈ T
  pre : ∀ w ∈ T, ∀ v, v <+: w → v ∈ T

def canW (T : List Tx) (p : Tx → Bool) : List Tx := W15s.filter fun w => decide (w ∈ T) && p w
def can (T : List Tx) (p : Tx → Bool) : List Tx := (canW T p).map pth
section
variable {T : List Tx} (t : Tr T)
include t
theorem mem_canW {p : Tx → Bool} {w : Tx} : w ∈ canW T p ↔ w ∈ T ∧ p w = true := by
  unfold canW
  rw [List.mem_filter, Bool.and_eq_true, decide_eq_true_eq]
  exact ⟨fun h => h.2, fun h => ⟨w15s_sup w (t.sub w h.1), h⟩⟩
theorem mem_can {p : Tx → Bool} {x : Tx} : x ∈ can T p ↔ ∃ w ∈ T, p w = true ∧ x = pth w := by
  unfold can
  rw [List.mem_map]
  constructor
  · rintro ⟨w, hw, rfl⟩; exact ⟨w, ((mem_canW t).mp hw).1, ((mem_canW t).mp hw).2, rfl⟩
  · rintro ⟨w, h1, h2, rfl⟩; exact ⟨w, (mem_canW t).mpr ⟨h1, h2⟩, rfl⟩
theorem pth_can {p : Tx → Bool} {w : Tx} (hw : w ∈ T) : pth w ∈ can T p ↔ p w = true := by
  rw [mem_can t]
  constructor
  · rintro ⟨v, hv, hp, e⟩; rw [pth_inj w (t.sub w hw) v (t.sub v hv) e]; exact hp
  · intro h; exact ⟨w, hw, h, rfl⟩
omit t in
theorem can_srt (p : Tx → Bool) : (can T p).Pairwise (· < ·) := w15s_srt.sublist (List.filter_sublist.map pth)
omit t in
theorem nd_of_srt {l : List Tx} (h : l.Pairwise (· < ·)) : l.Nodup := List.Pairwise.imp (fun {a b} (h : a < b) (q : a = b) => List.lt_irrefl b (by rw [q] at h; exact h)) h
omit t in
theorem can_nd (p : Tx → Bool) : (can T p).Nodup := nd_of_srt (can_srt p)
omit t in
theorem can_len (p : Tx → Bool) : (can T p).length ≤ 15 := by
  unfold can canW; rw [List.length_map]; exact List.length_filter_le _ _
theorem can_perm (p : Tx → Bool) : (can T p).Perm ((T.filter p).map pth) := by
  refine List.Perm.map pth (perm_of (w15s_nd.filter _) (t.nd.filter _) fun w => ?_)
  rw [mem_canW t, List.mem_filter]
theorem can_inj {p q : Tx → Bool} (h : can T p = can T q) {w : Tx} (hw : w ∈ T) : p w = q w := by
  have h1 := pth_can t (p := p) hw
  have h2 := pth_can t (p := q) hw
  rw [h] at h1
  exact Bool.eq_iff_iff.mpr (h1.symm.trans h2)
omit t in
theorem can_congr {p q : Tx → Bool} (h : ∀ w ∈ T, p w = q w) : can T p = can T q := by
  unfold can canW
  congr 1
  refine List.filter_congr fun w _ => ?_
  by_cases hw : w ∈ T
  · rw [h w hw]
  · simp [hw]
theorem can_compl (p : Tx → Bool) : ((can T fun _ => true).filter fun x => decide (x ∉ can T p)) = can T fun w => !p w := by
  show ((canW T fun _ => true).map pth).filter _ = (canW T fun w => !p w).map pth
  rw [List.filter_map]
  congr 1
  unfold canW
  rw [List.filter_filter]
  refine List.filter_congr fun w _ => ?_
  show (decide (pth w ∉ can T p) && (decide (w ∈ T) && true)) = (decide (w ∈ T) && !p w)
  by_cases hw : w ∈ T
  · rw [decide_eq_true hw, Bool.true_and, Bool.true_and, Bool.and_true, Bool.eq_iff_iff, decide_eq_true_eq, pth_can t hw]
    cases p w <;> simp
  · simp [hw]

def up (T : List Tx) (p : Tx → Bool) (w : Tx) : Bool := T.any fun v => p v && w.isPrefixOf v
def KT (T : List Tx) (S : List Tx) : List Tx := can T fun w => S.any fun x => (pth w).isPrefixOf x
omit t in
theorem up_iff {p : Tx → Bool} {w : Tx} : up T p w = true ↔ ∃ v ∈ T, p v = true ∧ w <+: v := by
  unfold up
  rw [List.any_eq_true]
  constructor
  · rintro ⟨v, hv, h⟩; rw [Bool.and_eq_true] at h; exact ⟨v, hv, h.1, isPre.mp h.2⟩
  · rintro ⟨v, hv, h1, h2⟩; exact ⟨v, hv, by rw [Bool.and_eq_true]; exact ⟨h1, isPre.mpr h2⟩⟩
theorem KT_can (p : Tx → Bool) : KT T (can T p) = can T (up T p) := by
  refine can_congr fun w hw => ?_
  rw [Bool.eq_iff_iff, List.any_eq_true, up_iff]
  constructor
  · rintro ⟨x, hx, h⟩
    obtain ⟨v, hv, hp, rfl⟩ := (mem_can t).mp hx
    rw [pth_pre w (t.sub w hw) v (t.sub v hv)] at h
    exact ⟨v, hv, hp, isPre.mp h⟩
  · rintro ⟨v, hv, hp, h⟩
    exact ⟨pth v, (pth_can t hv).mpr hp, by rw [pth_pre w (t.sub w hw) v (t.sub v hv)]; exact isPre.mpr h⟩

omit t in
theorem mem_above {ws : List Tx} {x : Tx} : x ∈ aboveL ws ↔ ∃ v ∈ ws, ∃ w, w <+: v ∧ x = pth w := by
  unfold aboveL ups
  rw [List.mem_flatMap]
  constructor
  · rintro ⟨v, hv, hx⟩
    obtain ⟨w, hw, rfl⟩ := List.mem_map.mp hx
    obtain ⟨k, _, rfl⟩ := List.mem_map.mp hw
    exact ⟨v, hv, _, List.take_prefix _ _, rfl⟩
  · rintro ⟨v, hv, w, hw, rfl⟩
    refine ⟨v, hv, List.mem_map.mpr ⟨w, List.mem_map.mpr ⟨w.length, List.mem_range.mpr ?_, ?_⟩, rfl⟩⟩
    · have := hw.length_le; omega
    · exact (List.prefix_iff_eq_take.mp hw).symm
theorem above_perm (p : Tx → Bool) : (can T (up T p)).Perm (dedupL (aboveL (canW T p))) := by
  refine perm_of (can_nd _) (nodup_dedupL _) fun x => ?_
  rw [mem_dedupL, mem_can t, mem_above]
  constructor
  · rintro ⟨w, hw, hu, rfl⟩
    obtain ⟨v, hv, hp, h⟩ := up_iff.mp hu
    exact ⟨v, (mem_canW t).mpr ⟨hv, hp⟩, w, h, rfl⟩
  · rintro ⟨v, hv, w, h, rfl⟩
    obtain ⟨hv, hp⟩ := (mem_canW t).mp hv
    exact ⟨w, t.pre v hv w h, up_iff.mpr ⟨v, hv, hp, h⟩, rfl⟩

theorem gd_T : Gd (can T fun _ => true) (KT T) (fun S => ∃ p, S = can T p) where
  srt := by rintro S ⟨p, rfl⟩; exact can_srt p
  sub := by
    rintro S ⟨p, rfl⟩ x hx
    obtain ⟨w, hw, _, rfl⟩ := (mem_can t).mp hx
    exact (pth_can t hw).mpr rfl
  up := by
    rintro S ⟨p, rfl⟩
    refine ⟨canW T p, rfl, fun w hw => t.sub w ((mem_canW t).mp hw).1, ?_⟩
    rw [KT_can t]; exact above_perm t p
  kG := by rintro S _; exact ⟨_, rfl⟩
  cG := by rintro S ⟨p, rfl⟩; exact ⟨_, can_compl t p⟩
  len := by rintro S ⟨p, rfl⟩; have := can_len (T := T) p; omega
  eS := can_srt _
  e0 := List.length_pos_of_mem ((pth_can t t.nil).mpr rfl)
  e1 := by have := can_len (T := T) fun _ => true; omega

/-! ends -/
theorem end_only {e v : Tx} (he : isEnd T e = true) (hv : v ∈ T) (h : e <+: v) : v = e := by
  obtain ⟨r, rfl⟩ := h
  cases r with
  | nil => simp
  | cons c r =>
    exfalso
    have hc : e ++ [c] ∈ T := t.pre _ hv _ ⟨r, by simp⟩
    unfold isEnd at he
    rw [Bool.and_eq_true] at he
    rcases w15_sign _ (t.sub _ hc) c (by simp) with rfl | rfl
    · simp [hc] at he
    · simp [hc] at he
theorem end_above : ∀ (n : Nat) (w : Tx), w ∈ T → 3 - w.length ≤ n → ∃ e ∈ T, isEnd T e = true ∧ w <+: e
  | 0, w, hw, hn => by
    refine ⟨w, hw, ?_, List.prefix_refl _⟩
    unfold isEnd
    have h1 : ∀ c, w ++ [c] ∉ T := fun c q => by
      have := w15_len _ (t.sub _ q)
      rw [List.length_append, List.length_singleton] at this; omega
    simp [h1]
  | n + 1, w, hw, hn => by
    by_cases he : isEnd T w = true
    · exact ⟨w, hw, he, List.prefix_refl _⟩
    · have : w ++ [97] ∈ T ∨ w ++ [98] ∈ T := by
        unfold isEnd at he
        by_cases h1 : w ++ [97] ∈ T
        · exact .inl h1
        · by_cases h2 : w ++ [98] ∈ T
          · exact .inr h2
          · simp [h1, h2] at he
      rcases this with q | q
      · obtain ⟨e, h1, h2, h3⟩ := end_above n _ q (by rw [List.length_append, List.length_singleton]; omega)
        exact ⟨e, h1, h2, (List.prefix_append _ _).trans h3⟩
      · obtain ⟨e, h1, h2, h3⟩ := end_above n _ q (by rw [List.length_append, List.length_singleton]; omega)
        exact ⟨e, h1, h2, (List.prefix_append _ _).trans h3⟩
theorem end_of {w : Tx} (hw : w ∈ T) : ∃ e ∈ T, isEnd T e = true ∧ w <+: e := end_above t 3 w hw (by omega)
end

/-! the five, and what lacks -/
section
variable {T : List Tx} (t : Tr T) (M : List Tx)
def pM (w : Tx) : Bool := decide (w ∈ M)
omit t in
theorem below_iff {w o : Tx} : o ∈ belowOf T w ↔ o ∈ T ∧ w <+: o := by
  unfold belowOf
  rw [List.mem_filter, decide_eq_true_eq]
  constructor
  · rintro ⟨h1, h2⟩; exact ⟨h1, by rw [← h2]; exact List.take_prefix _ _⟩
  · rintro ⟨h1, h2⟩; exact ⟨h1, (List.prefix_iff_eq_take.mp h2).symm⟩
omit t in
theorem ends_iff {w o : Tx} : o ∈ endsOf T w ↔ o ∈ T ∧ w <+: o ∧ isEnd T o = true := by
  unfold endsOf
  rw [List.mem_filter, below_iff, and_assoc]
omit t in
theorem some_iff {row : List Tx} : someIn M row = true ↔ ∃ o ∈ row, o ∈ M := by
  unfold someIn
  simp only [Bool.not_eq_true', decide_eq_false_iff_not, List.filter_eq_nil_iff, decide_eq_true_eq]
  constructor
  · intro h
    refine Classical.byContradiction fun q => h fun o ho hm => q ⟨o, ho, hm⟩
  · rintro ⟨o, h1, h2⟩ q; exact q o h1 h2
omit t in
theorem all_iff {row : List Tx} : allIn M row = true ↔ ∀ o ∈ row, o ∈ M := by
  unfold allIn
  simp [List.filter_eq_nil_iff]
def p5 (T M : List Tx) : List (Tx → Bool) := [fun w => decide (w ∈ M), fun w => someIn M (belowOf T w), fun w => allIn M (belowOf T w), fun w => someIn M (endsOf T w), fun w => allIn M (endsOf T w)]
def p10 (T M : List Tx) : List (Tx → Bool) := p5 T M ++ (p5 T M).map fun p w => !p w
def duL (T M : List Tx) : List (List Tx) := (p10 T M).map (can T)

abbrev pSB (T M : List Tx) (w : Tx) : Bool := someIn M (belowOf T w)
abbrev pAB (T M : List Tx) (w : Tx) : Bool := allIn M (belowOf T w)
abbrev pSE (T M : List Tx) (w : Tx) : Bool := someIn M (endsOf T w)
abbrev pAE (T M : List Tx) (w : Tx) : Bool := allIn M (endsOf T w)
omit t in
theorem sb_iff {w : Tx} : pSB T M w = true ↔ ∃ o ∈ T, w <+: o ∧ o ∈ M := by
  simp only [pSB, some_iff, below_iff]
  exact ⟨fun ⟨o, h, k⟩ => ⟨o, h.1, h.2, k⟩, fun ⟨o, h, k, l⟩ => ⟨o, ⟨h, k⟩, l⟩⟩
omit t in
theorem ab_iff {w : Tx} : pAB T M w = true ↔ ∀ o ∈ T, w <+: o → o ∈ M := by
  simp only [pAB, all_iff, below_iff]
  exact ⟨fun h o h1 h2 => h o ⟨h1, h2⟩, fun h o h1 => h o h1.1 h1.2⟩
omit t in
theorem se_iff {w : Tx} : pSE T M w = true ↔ ∃ o ∈ T, w <+: o ∧ isEnd T o = true ∧ o ∈ M := by
  simp only [pSE, some_iff, ends_iff]
  exact ⟨fun ⟨o, h, k⟩ => ⟨o, h.1, h.2.1, h.2.2, k⟩, fun ⟨o, h, k, l, m⟩ => ⟨o, ⟨h, k, l⟩, m⟩⟩
omit t in
theorem ae_iff {w : Tx} : pAE T M w = true ↔ ∀ o ∈ T, w <+: o → isEnd T o = true → o ∈ M := by
  simp only [pAE, all_iff, ends_iff]
  exact ⟨fun h o h1 h2 h3 => h o ⟨h1, h2, h3⟩, fun h o h1 => h o h1.1 h1.2.1 h1.2.2⟩
omit t in
theorem nt {b : Bool} : (!b) = true ↔ ¬ b = true := by cases b <;> simp

include t
theorem k_M {w : Tx} (hw : w ∈ T) : up T (fun w => decide (w ∈ M)) w = pSB T M w := by
  rw [Bool.eq_iff_iff, up_iff, sb_iff]
  exact ⟨fun ⟨v, h1, h2, h3⟩ => ⟨v, h1, h3, by simpa using h2⟩, fun ⟨v, h1, h2, h3⟩ => ⟨v, h1, by simpa using h3, h2⟩⟩
theorem k_SB {w : Tx} (hw : w ∈ T) : up T (pSB T M) w = pSB T M w := by
  rw [Bool.eq_iff_iff, up_iff, sb_iff]
  constructor
  · rintro ⟨v, h1, h2, h3⟩
    obtain ⟨o, h4, h5, h6⟩ := (sb_iff M).mp h2
    exact ⟨o, h4, h3.trans h5, h6⟩
  · rintro ⟨v, h1, h2, h3⟩; exact ⟨v, h1, (sb_iff M).mpr ⟨v, h1, List.prefix_refl _, h3⟩, h2⟩
theorem k_AB {w : Tx} (hw : w ∈ T) : up T (pAB T M) w = pSE T M w := by
  rw [Bool.eq_iff_iff, up_iff, se_iff]
  constructor
  · rintro ⟨v, h1, h2, h3⟩
    obtain ⟨e, h4, h5, h6⟩ := end_of t h1
    exact ⟨e, h4, h3.trans h6, h5, (ab_iff M).mp h2 e h4 h6⟩
  · rintro ⟨e, h1, h2, h3, h4⟩
    refine ⟨e, h1, (ab_iff M).mpr fun o ho h => ?_, h2⟩
    rw [end_only t h3 ho h]; exact h4
theorem k_SE {w : Tx} (hw : w ∈ T) : up T (pSE T M) w = pSE T M w := by
  rw [Bool.eq_iff_iff, up_iff, se_iff]
  constructor
  · rintro ⟨v, h1, h2, h3⟩
    obtain ⟨o, h4, h5, h6, h7⟩ := (se_iff M).mp h2
    exact ⟨o, h4, h3.trans h5, h6, h7⟩
  · rintro ⟨v, h1, h2, h3, h4⟩; exact ⟨v, h1, (se_iff M).mpr ⟨v, h1, List.prefix_refl _, h3, h4⟩, h2⟩
theorem k_AE {w : Tx} (hw : w ∈ T) : up T (pAE T M) w = pSE T M w := by
  rw [Bool.eq_iff_iff, up_iff, se_iff]
  constructor
  · rintro ⟨v, h1, h2, h3⟩
    obtain ⟨e, h4, h5, h6⟩ := end_of t h1
    exact ⟨e, h4, h3.trans h6, h5, (ae_iff M).mp h2 e h4 h6 h5⟩
  · rintro ⟨e, h1, h2, h3, h4⟩
    refine ⟨e, h1, (ae_iff M).mpr fun o ho h _ => ?_, h2⟩
    rw [end_only t h3 ho h]; exact h4
theorem k_cM {w : Tx} (hw : w ∈ T) : up T (fun w => !decide (w ∈ M)) w = !pAB T M w := by
  rw [Bool.eq_iff_iff, up_iff, nt, ab_iff]
  constructor
  · rintro ⟨v, h1, h2, h3⟩ q; simp [q v h1 h3] at h2
  · intro q
    refine Classical.byContradiction fun r => q fun o ho h => Classical.byContradiction fun hm => r ⟨o, ho, by simpa using hm, h⟩
theorem k_cSB {w : Tx} (hw : w ∈ T) : up T (fun w => !pSB T M w) w = !pAE T M w := by
  rw [Bool.eq_iff_iff, up_iff, nt, ae_iff]
  constructor
  · rintro ⟨v, h1, h2, h3⟩ q
    obtain ⟨e, h4, h5, h6⟩ := end_of t h1
    exact nt.mp h2 ((sb_iff M).mpr ⟨e, h4, h6, q e h4 (h3.trans h6) h5⟩)
  · intro q
    refine Classical.byContradiction fun r => q fun o ho h he => Classical.byContradiction fun hm => r ⟨o, ho, nt.mpr fun hs => ?_, h⟩
    obtain ⟨u, h1, h2, h3⟩ := (sb_iff M).mp hs
    rw [end_only t he h1 h2] at h3; exact hm h3
theorem k_cAB {w : Tx} (hw : w ∈ T) : up T (fun w => !pAB T M w) w = !pAB T M w := by
  rw [Bool.eq_iff_iff, up_iff, nt]
  constructor
  · rintro ⟨v, h1, h2, h3⟩ q
    exact nt.mp h2 ((ab_iff M).mpr fun o ho h => (ab_iff M).mp q o ho (h3.trans h))
  · intro q; exact ⟨w, hw, nt.mpr q, List.prefix_refl _⟩
theorem k_cSE {w : Tx} (hw : w ∈ T) : up T (fun w => !pSE T M w) w = !pAE T M w := by
  rw [Bool.eq_iff_iff, up_iff, nt, ae_iff]
  constructor
  · rintro ⟨v, h1, h2, h3⟩ q
    obtain ⟨e, h4, h5, h6⟩ := end_of t h1
    exact nt.mp h2 ((se_iff M).mpr ⟨e, h4, h6, h5, q e h4 (h3.trans h6) h5⟩)
  · intro q
    refine Classical.byContradiction fun r => q fun o ho h he => Classical.byContradiction fun hm => r ⟨o, ho, nt.mpr fun hs => ?_, h⟩
    obtain ⟨u, h1, h2, h3, h4⟩ := (se_iff M).mp hs
    rw [end_only t he h1 h2] at h4; exact hm h4
theorem k_cAE {w : Tx} (hw : w ∈ T) : up T (fun w => !pAE T M w) w = !pAE T M w := by
  rw [Bool.eq_iff_iff, up_iff, nt]
  constructor
  · rintro ⟨v, h1, h2, h3⟩ q
    exact nt.mp h2 ((ae_iff M).mpr fun o ho h he => (ae_iff M).mp q o ho (h3.trans h) he)
  · intro q; exact ⟨w, hw, nt.mpr q, List.prefix_refl _⟩

abbrev ET (T : List Tx) : List Tx := can T fun _ => true
omit t in
theorem due_mem {S : List Tx} : S ∈ duL T M ↔ S = can T (fun w => decide (w ∈ M)) ∨ S = can T (pSB T M) ∨ S = can T (pAB T M) ∨ S = can T (pSE T M) ∨ S = can T (pAE T M) ∨
    S = can T (fun w => !decide (w ∈ M)) ∨ S = can T (fun w => !pSB T M w) ∨ S = can T (fun w => !pAB T M w) ∨ S = can T (fun w => !pSE T M w) ∨ S = can T (fun w => !pAE T M w) := by
  simp [duL, p10, p5]
theorem kc (p q : Tx → Bool) (h : ∀ w ∈ T, up T p w = q w) : KT T (can T p) = can T q := by rw [KT_can t]; exact can_congr h
theorem due_K {S : List Tx} (hS : S ∈ duL T M) : KT T S ∈ duL T M := by
  rw [due_mem] at hS ⊢
  rcases hS with rfl | rfl | rfl | rfl | rfl | rfl | rfl | rfl | rfl | rfl
  · rw [kc t _ _ fun w hw => k_M t M hw]; simp
  · rw [kc t _ _ fun w hw => k_SB t M hw]; simp
  · rw [kc t _ _ fun w hw => k_AB t M hw]; simp
  · rw [kc t _ _ fun w hw => k_SE t M hw]; simp
  · rw [kc t _ _ fun w hw => k_AE t M hw]; simp
  · rw [kc t _ _ fun w hw => k_cM t M hw]; simp
  · rw [kc t _ _ fun w hw => k_cSB t M hw]; simp
  · rw [kc t _ _ fun w hw => k_cAB t M hw]; simp
  · rw [kc t _ _ fun w hw => k_cSE t M hw]; simp
  · rw [kc t _ _ fun w hw => k_cAE t M hw]; simp
theorem cc (p : Tx → Bool) : ((ET T).filter fun x => decide (x ∉ can T fun w => !p w)) = can T p := by
  rw [can_compl t]; exact can_congr fun w _ => Bool.not_not _
theorem due_c {S : List Tx} (hS : S ∈ duL T M) : ((ET T).filter fun x => decide (x ∉ S)) ∈ duL T M := by
  rw [due_mem] at hS ⊢
  rcases hS with rfl | rfl | rfl | rfl | rfl | rfl | rfl | rfl | rfl | rfl
  · rw [can_compl t]; simp
  · rw [can_compl t]; simp
  · rw [can_compl t]; simp
  · rw [can_compl t]; simp
  · rw [can_compl t]; simp
  · rw [cc t]; simp
  · rw [cc t]; simp
  · rw [cc t]; simp
  · rw [cc t]; simp
  · rw [cc t]; simp

abbrev told (T M : List Tx) : List (List Tx) := sets11 (ET T) (KT T) (can T fun w => decide (w ∈ M)) 12
theorem told_sub : ∀ S ∈ told T M, S ∈ duL T M := s11_in _ _ _ ((due_mem M).mpr (.inl rfl)) (fun S h => due_K t M h) (fun S h => due_c t M h) 12
theorem told_len : (told T M).length ≤ 12 := by
  have h1 := (s11_nodup (ET T) (KT T) (can T fun w => decide (w ∈ M)) 12)
  have h2 : ∀ (l m : List (List Tx)), l.Nodup → (∀ x ∈ l, x ∈ m) → l.length ≤ m.length := by
    intro l
    induction l with
    | nil => intro m _ _; simp
    | cons x l ih =>
      intro m hn hs
      have hx := hs x (by simp)
      have hn' := List.nodup_cons.mp hn
      have := ih (m.erase x) hn'.2 fun y hy => (List.mem_erase_of_ne (fun (q : y = x) => hn'.1 (by rw [← q]; exact hy))).mpr (hs y (by simp [hy]))
      rw [List.length_erase_of_mem hx] at this
      have := List.length_pos_of_mem hx
      rw [List.length_cons]; omega
  have h3 : (told T M).length ≤ (duL T M).length := h2 _ _ h1 (told_sub t M)
  have h4 : (duL T M).length = 10 := by simp [duL, p10, p5]
  omega
theorem told_K {S : List Tx} (h : S ∈ told T M) : KT T S ∈ told T M := (s11_closed _ _ _ (told_len t M) h).1
theorem told_c {S : List Tx} (h : S ∈ told T M) : ((ET T).filter fun x => decide (x ∉ S)) ∈ told T M := (s11_closed _ _ _ (told_len t M) h).2
theorem told_sup : ∀ S ∈ duL T M, S ∈ told T M := by
  have a1 : can T (fun w => decide (w ∈ M)) ∈ told T M := s11_first _ _ _ _
  have a2 := told_c t M a1; rw [can_compl t] at a2
  have a3 := told_K t M a1; rw [kc t _ _ fun w hw => k_M t M hw] at a3
  have a4 := told_c t M a3; rw [can_compl t] at a4
  have a5 := told_K t M a4; rw [kc t _ _ fun w hw => k_cSB t M hw] at a5
  have a6 := told_c t M a5; rw [cc t] at a6
  have a7 := told_K t M a6; rw [kc t _ _ fun w hw => k_AE t M hw] at a7
  have a8 := told_c t M a7; rw [can_compl t] at a8
  have a9 := told_K t M a2; rw [kc t _ _ fun w hw => k_cM t M hw] at a9
  have a10 := told_c t M a9; rw [cc t] at a10
  intro S hS
  rw [due_mem] at hS
  rcases hS with rfl | rfl | rfl | rfl | rfl | rfl | rfl | rfl | rfl | rfl
  all_goals assumption
theorem told_iff {S : List Tx} : S ∈ told T M ↔ S ∈ duL T M := ⟨told_sub t M S, told_sup t M S⟩

/-- on an end all five agree -/
theorem p5_end {e : Tx} (he : e ∈ T) (h : isEnd T e = true) : ∀ p ∈ p5 T M, p e = decide (e ∈ M) := by
  have hb : belowOf T e = [e] ∨ True := .inr trivial
  intro p hp
  have one : ∀ o ∈ T, e <+: o → o = e := fun o ho q => end_only t h ho q
  simp only [p5, List.mem_cons, List.not_mem_nil, or_false] at hp
  rcases hp with rfl | rfl | rfl | rfl | rfl
  · rfl
  · show pSB T M e = _
    rw [Bool.eq_iff_iff, sb_iff, decide_eq_true_eq]
    exact ⟨fun ⟨o, h1, h2, h3⟩ => one o h1 h2 ▸ h3, fun q => ⟨e, he, List.prefix_refl _, q⟩⟩
  · show pAB T M e = _
    rw [Bool.eq_iff_iff, ab_iff, decide_eq_true_eq]
    exact ⟨fun q => q e he (List.prefix_refl _), fun q o h1 h2 => one o h1 h2 ▸ q⟩
  · show pSE T M e = _
    rw [Bool.eq_iff_iff, se_iff, decide_eq_true_eq]
    exact ⟨fun ⟨o, h1, h2, _, h3⟩ => one o h1 h2 ▸ h3, fun q => ⟨e, he, List.prefix_refl _, h, q⟩⟩
  · show pAE T M e = _
    rw [Bool.eq_iff_iff, ae_iff, decide_eq_true_eq]
    exact ⟨fun q => q e he (List.prefix_refl _) h, fun q o h1 h2 _ => one o h1 h2 ▸ q⟩
theorem apart {p q : Tx → Bool} (hp : p ∈ p5 T M) (hq : q ∈ p5 T M) : can T p ≠ can T fun w => !q w := fun h => by
  obtain ⟨e, h1, h2, _⟩ := end_of t t.nil
  have := can_inj t h h1
  rw [p5_end t M h1 h2 p hp, p5_end t M h1 h2 q hq] at this
  revert this; cases decide (e ∈ M) <;> simp
end
end Mine
end

section
set_option maxRecDepth 100000
set_option maxHeartbeats 4000000
namespace Mine

/-! what the law reckons, from the ways -/
def frontsL (ways : List Tx) : List Tx := ways.flatMap ups
def wordsL (ways : List Tx) : List Tx := firstL [] (frontsL ways)
theorem mem_ups {v w : Tx} : w ∈ ups v ↔ w <+: v := by
  unfold ups
  rw [List.mem_map]
  constructor
  · rintro ⟨k, _, rfl⟩; exact List.take_prefix _ _
  · intro h
    refine ⟨w.length, List.mem_range.mpr ?_, (List.prefix_iff_eq_take.mp h).symm⟩
    have := h.length_le; omega
theorem mem_words {ways : List Tx} {w : Tx} : w ∈ wordsL ways ↔ ∃ v ∈ ways, w <+: v := by
  unfold wordsL frontsL
  rw [mem_firstL, List.mem_flatMap]
  constructor
  · rintro ⟨v, hv, h⟩; exact ⟨v, hv, mem_ups.mp h⟩
  · rintro ⟨v, hv, h⟩; exact ⟨v, hv, mem_ups.mpr h⟩
theorem ups15 : ∀ w ∈ W15, ∀ v ∈ ups w, v ∈ W15 := by decide
theorem tr_words {ways : List Tx} (hW : ∀ w ∈ ways, w ∈ W15) (h0 : [] ∈ ways) : Tr (wordsL ways) where
  sub := by intro w hw; obtain ⟨v, hv, h⟩ := mem_words.mp hw; exact ups15 v (hW v hv) w (mem_ups.mpr h)
  nd := nodup_firstL _ _
  nil := mem_words.mpr ⟨[], h0, List.prefix_refl _⟩
  pre := by intro w hw v h; obtain ⟨u, hu, h'⟩ := mem_words.mp hw; exact mem_words.mpr ⟨u, hu, h.trans h'⟩
theorem fronts_len {ways : List Tx} (hW : ∀ w ∈ ways, w ∈ W15) : (frontsL ways).length ≤ 4 * ways.length := by
  induction ways with
  | nil => simp [frontsL]
  | cons w ways ih =>
    have := ih fun x hx => hW x (.tail _ hx)
    have := w15_len w (hW w (.head _))
    simp only [frontsL, List.flatMap_cons, List.length_append, List.length_cons, ups, List.length_map, List.length_range] at *
    omega
theorem words_len {ways : List Tx} (hW : ∀ w ∈ ways, w ∈ W15) : (wordsL ways).length ≤ 4 * ways.length := by
  refine Nat.le_trans ?_ (fronts_len hW)
  unfold wordsL firstL
  rw [List.length_map]
  exact Nat.le_trans (List.length_filter_le _ _) (by rw [List.length_range]; exact Nat.le_refl _)

section
variable {ways : List Tx} (hW : ∀ w ∈ ways, w ∈ W15) (h0 : [] ∈ ways)
include hW h0
theorem es_above : (ET (wordsL ways)).Perm (dedupL (aboveL ways)) := by
  have t := tr_words hW h0
  refine perm_of (can_nd _) (nodup_dedupL _) fun x => ?_
  rw [mem_dedupL, mem_can t, mem_above]
  constructor
  · rintro ⟨w, hw, _, rfl⟩
    obtain ⟨v, hv, h⟩ := mem_words.mp hw
    exact ⟨v, hv, w, h, rfl⟩
  · rintro ⟨v, hv, w, h, rfl⟩
    exact ⟨w, mem_words.mpr ⟨v, hv, h⟩, rfl, rfl⟩
theorem es_words : (ET (wordsL ways)).Perm ((wordsL ways).map pth) := by
  have := can_perm (tr_words hW h0) fun _ => true
  rwa [List.filter_eq_self.mpr (by simp)] at this
end

section
variable {T : List Tx} (t : Tr T) (M : List Tx)
theorem five_eq : fiveL T M = (p5 T M).map fun p => T.filter p := rfl
def tenL (T M : List Tx) : List (List Tx) := (p10 T M).map fun p => T.filter p
theorem filt_in (p : Tx → Bool) : T.filter (fun w => decide (w ∈ T.filter p)) = T.filter p := by
  refine List.filter_congr fun w hw => ?_
  rw [Bool.eq_iff_iff, decide_eq_true_eq, List.mem_filter]
  exact ⟨fun h => h.2, fun h => ⟨hw, h⟩⟩
theorem filt_out (p : Tx → Bool) : T.filter (fun w => !decide (w ∈ T.filter p)) = T.filter fun w => !p w := by
  refine List.filter_congr fun w hw => ?_
  congr 1
  rw [Bool.eq_iff_iff, decide_eq_true_eq, List.mem_filter]
  exact ⟨fun h => h.2, fun h => ⟨hw, h⟩⟩
theorem ten_eq : fiveL T M ++ (fiveL T M).map (fun one => T.filter fun w => !decide (w ∈ one)) = tenL T M := by
  rw [five_eq, tenL, p10, List.map_append, List.map_map, List.map_map]
  congr 1
  exact List.map_congr_left fun p _ => filt_out p
def srtOf (T : List Tx) (one : List Tx) : List Tx := can T fun w => decide (w ∈ one)
theorem due_eq : (tenL T M).map (srtOf T) = duL T M := by
  rw [tenL, duL, List.map_map]
  refine List.map_congr_left fun p _ => ?_
  refine can_congr fun w hw => ?_
  rw [Bool.eq_iff_iff, decide_eq_true_eq, List.mem_filter]
  exact ⟨fun h => h.2, fun h => ⟨hw, h⟩⟩
theorem ten_sub {one : List Tx} (h : one ∈ tenL T M) : one.length ≤ T.length ∧ ∀ w ∈ one, w ∈ T := by
  obtain ⟨p, _, rfl⟩ := List.mem_map.mp h
  exact ⟨List.length_filter_le _ _, fun w hw => (List.mem_filter.mp hw).1⟩
include t
theorem srt_perm {one : List Tx} (h : one ∈ tenL T M) : (srtOf T one).Perm (one.map pth) := by
  obtain ⟨p, _, rfl⟩ := List.mem_map.mp h
  have := can_perm t fun w => decide (w ∈ T.filter p)
  rwa [filt_in] at this
omit t in
theorem due_len : (duL T M).length = 10 := by simp [duL, p10, p5]
omit t in
theorem ten_len : (tenL T M).length = 10 := by simp [tenL, p10, p5]
omit t in
theorem due_0 : (duL T M)[0]? = some (can T fun w => decide (w ∈ M)) := rfl
omit t in
theorem told_nd : (told T M).Nodup := s11_nodup _ _ _ _
theorem told_once : (told T M).Perm (firstL [] (duL T M)) := perm_of (told_nd M) (nodup_firstL _ _) fun S => by rw [told_iff t, mem_firstL]
theorem cmp_1 : (eraseAll (dedupL (duL T M)) (dedupL (told T M))).isEmpty = true := by
  rw [eraseAll_perm _ _ (perm_of (nodup_dedupL _) (nodup_dedupL _) fun S => by rw [mem_dedupL, mem_dedupL, told_iff t])]
  rfl
omit t in
theorem due_take : (duL T M).take 5 = (p5 T M).map (can T) := rfl
omit t in
theorem due_drop : (duL T M).drop 5 = ((p5 T M).map fun p w => !p w).map (can T) := rfl
theorem last_eq : (((duL T M).take 5).filter fun one => decide (one ∈ (duL T M).drop 5)) = [] := by
  rw [List.filter_eq_nil_iff]
  intro S hS h
  rw [due_take] at hS
  rw [decide_eq_true_eq, due_drop, List.map_map] at h
  obtain ⟨p, hp, rfl⟩ := List.mem_map.mp hS
  obtain ⟨q, hq, e⟩ := List.mem_map.mp h
  exact apart t M hp hq e.symm
theorem cmp_2 : (eraseAll (dedupL (told T M)) (dedupL ((duL T M).take 5))).isEmpty = false := by
  have h1 : can T (fun w => !decide (w ∈ M)) ∈ told T M := told_sup t M _ ((due_mem M).mpr (by simp))
  have h2 : can T (fun w => !decide (w ∈ M)) ∉ (duL T M).take 5 := fun h => by
    rw [due_take] at h
    obtain ⟨p, hp, e⟩ := List.mem_map.mp h
    exact apart t M (q := fun w => decide (w ∈ M)) hp (by simp [p5]) e
  have := mem_eraseAll _ _ (fun q => h2 (mem_dedupL.mp q)) (mem_dedupL.mpr h1)
  cases hq : eraseAll (dedupL (told T M)) (dedupL ((duL T M).take 5)) with
  | nil => rw [hq] at this; cases this
  | cons a l => rfl
omit t in
theorem told_len60 : (told T M).length ≤ 25 := by have := sets11_len (ET T) (KT T) (can T fun w => decide (w ∈ M)) 12; exact this
end
end Mine
end

section
set_option maxRecDepth 100000
set_option maxHeartbeats 16000000
namespace Mine
open PySem PySem.W PyProof.Rows PySem.Calls PySem.SeqAt

theorem ways15 (ns : List Int) : ∀ w ∈ waysL ns, w ∈ W15 := fun w hw => by
  rcases List.mem_cons.mp hw with rfl | hw
  · decide
  · obtain ⟨x, _, rfl⟩ := List.mem_map.mp hw; exact way15 x
theorem ways0 (ns : List Int) : [] ∈ waysL ns := List.mem_cons_self
theorem ways_len (ns : List Int) : (waysL ns).length = ns.length + 1 := by simp [waysL]
theorem isList_keeps {h h' : Heap} {a : Addr} {its : Array Value} (k : Kp h h') (hl : h.IsList a its) : h'.IsList a its := by
  obtain ⟨o, e, r⟩ := hl; exact ⟨o, k a o e, r⟩

theorem firstL_tx (l : List Tx) : ((List.range l.length).filter fun j => !decide (l.getD j [] ∈ l.take j)).map (fun j => l.getD j []) = firstL [] l := by
  unfold firstL; congr 1; refine List.filter_congr fun j _ => ?_; congr 1; exact decide_eq_decide.mpr Iff.rfl
theorem firstL_ls (l : List (List Tx)) : ((List.range l.length).filter fun j => !decide (l.getD j [] ∈ l.take j)).map (fun j => l.getD j []) = firstL [] l := by
  unfold firstL; congr 1; refine List.filter_congr fun j _ => ?_; congr 1; exact decide_eq_decide.mpr Iff.rfl
section
variable {prog : Program} {w : World} {A : Around} {fa : Nat → Addr} {s : Shared} {E : Value → Shared → Prop}
theorem c_law {q : Str} {cd : Value} {L af b : Addr} {h₁ : Heap} {tk : Nat} {m cm : Str → Option Value} {vs : List Value} {ns : List Int} {Q : Flow → Shared → Prop} (hA : Ok 4 A) (hfr : A.frames = some [fenv 14 q cd L af]) (B : Bs fa s.heap)
    (F₁ : FS [] s.heap (fenv 14 q cd L af) h₁ m cm) (hm : m (Str.ofString "script") = some (.ref b)) (hl : s.heap.IsList b vs.toArray) (hi : IntsAre vs ns) (hlen : ns.length ≤ 1000)
    (k : ∀ h' tk, Kp s.heap h' → Q (.ret (.bool true)) { s with heap := h', toks := tk }) :
    wpAny (model prog w) A (execs (fbody 14) (fenv 14 q cd L af)) Q E { s with heap := h₁, toks := tk } := by
  have gt := gr_tx false
  have gl : ∀ d, GR (LsR (TxR false) d) := gr_ls gt
  have gll : ∀ d, GR (LsR (LsR (TxR false)) d) := gr_ls gl
  have sl : ∀ {n : Nat}, n ≤ 1000000 → n ≤ sizeLine := fun h => by rw [sizeLine_eq]; omega
  have al₁ : Al [] h₁ := Al.nil
  have Bk : ∀ {h' m' cm'}, FS [] s.heap (fenv 14 q cd L af) h' m' cm' → Bs fa h' := fun F' => B.up F'.kept
  -- numbers = script[:4]
  have hnum : ∀ {p₁ p₂ p₃ p₄ : Pos}, Ev prog w A [] h₁ (eval (.Subscript (.Name (Str.ofString "script") p₁) (.Slice none (some (.Constant (.int 4) 0 p₂)) none p₃) p₄) (fenv 14 q cd L af)) (LsR IntR (ns.take 4)) := fun {_ _ _ _} Y s' al le => by
    refine wpAny_Subscript_list_slice (see_load (See.up (.loc rfl F₁.ns hm) le.kp) rfl (by decide) ((ev_part_none (X := Y) (h := s'.heap)).here al fun v2 h₂ t₂ k₂ r2 => (ev_part_some (X := Y) (h := h₂) (i := 4) ev_int).here (s := { s' with heap := h₂, toks := t₂ }) (al.up k₂) fun v3 h₃ t₃ k₃ r3 => ?_)) (fun _ _ => rfl)
    have hl3 : h₃.IsList b vs.toArray := isList_keeps (F₁.kept.trans (le.kp.trans (k₂.trans k₃))) hl
    have hlen2 := hi.length
    refine ⟨b, vs.toArray, none, some 4, rfl, hl3, sl (by simp; omega), r2, r3, _, t₃, rfl, (k₂.trans k₃).trans ((kp_push _ _).trans (kp_push _ _)), ?_⟩
    have e1 : ((h₃.push { cls := .type "slice", data := .fields #[v2, v3, .none] }).objs.size) = h₃.objs.size + 1 := Heap.size_push _ _
    refine made_list (n := 0) (vs := vs.take 4) (al.up (k₂.trans k₃)) (get_ge (Nat.le_succ _)) ?_ ?_
    · rw [← e1, get_push _ _ rfl, slicePick_plain]
      congr 2
      simp only [Option.elim, List.drop_zero, Nat.sub_zero]
      have : clipAt vs.toArray.size 4 = min 4 vs.length := by
        have := clipAt_nat vs.length 4
        simpa using this
      rw [this]
      simp
    · have key : ∀ {vs : List Value} {ns : List Int} {X : List Addr} {h : Heap}, IntsAre vs ns → All2 (fun u d => IntR d X h u) vs ns := by
        intro vs ns X h hi
        induction hi with
        | nil => exact .nil
        | cons n t _ ih => exact .cons ⟨t, rfl⟩ ih
      exact (key hi).take 4
  refine wpAny_execs_cons (as_name (s := { s with heap := h₁, toks := tk }) (R := LsR IntR (ns.take 4)) F₁ al₁ hnum (gr_ls gr_int _) (fun v => .loc rfl) rfl rfl ?_)
  intro vN h₂ t₂ F₂ sx₂ al₂ rN
  clear hnum
  have h4 : (ns.take 4).length ≤ 4 := by rw [List.length_take]; omega
  generalize ns.take 4 = n4 at rN h4
  -- odd = sum(numbers) % 2 == 1
  obtain ⟨o, ho⟩ : ∃ o : Bool, o = (n4.sum.fmod 2 == 1) := ⟨_, rfl⟩
  refine wpAny_execs_cons (as_name (s := { s with heap := h₂, toks := t₂ }) (R := BoolR o) F₂ al₂
    (by rw [ho]; exact ev_Cmp (Rl := IntR (n4.sum.fmod 2)) (Rr := IntR 1) (ev_BinOp (ev_callB ((Bk F₂).b (v := .builtin "sum") (by decide) rfl rfl rfl) (ev_args_cons (ev_name (.loc rfl F₂.ns rfl) (gr_ls gr_int _) rN rfl (by decide)) (gr_ls gr_int _) ev_args_nil rfl) (fun Z h' vs l r => by
        obtain ⟨v, us, rfl, r, rfl⟩ := r
        exact b_sum hA.handled r) rfl (by decide) rfl rfl) (gr_int _) ev_int (fun Z h' x y l ra rb => op_mod (by decide) ra rb)) (gr_int _) ev_int (fun Z h' x y l ra rb => op_ieq ra rb) rfl) (gr_bool _) (fun v => .cel rfl rfl) rfl rfl ?_)
  intro vO h₃ t₃ F₃ sx₃ al₃ rO
  have go := gr_tx o
  have glo : ∀ d, GR (LsR (TxR o) d) := gr_ls go
  have gllo : ∀ d, GR (LsR (LsR (TxR o)) d) := gr_ls glo
  have rO' : ∀ {X h}, BoolR o X h vO := rO
  have rN3 : LsR IntR n4 [] h₃ vN := (gr_ls gr_int _).up (sx₃.up (by simp)) rN
  -- drawn = _law_ways(numbers)
  refine wpAny_execs_cons (as_name (s := { s with heap := h₃, toks := t₃ }) (R := TpR (LsR (TxR false)) (LsR (TxR false)) (waysL n4, marksL n4)) F₃ al₃
    (ev_callD 12 (Bk F₃) (by decide) (by decide) (ev_args_cons (ev_name (.loc rfl F₃.ns rfl) (gr_ls gr_int _) rN3 rfl (by decide)) (gr_ls gr_int _) ev_args_nil rfl) (fun Z h' vs l B' r => by
        obtain ⟨v, us, rfl, r, rfl⟩ := r
        exact c_ways hA B' (by omega) r) rfl rfl rfl (by decide) rfl) (gr_tp gl gl _) (fun v => .loc rfl) rfl rfl ?_)
  intro vD h₄ t₄ F₄ sx₄ al₄ rD
  have hW := ways15 n4
  have h0 := ways0 n4
  have hwl : (waysL n4).length ≤ 5 := by rw [ways_len]; omega
  generalize waysL n4 = ways at rD hW h0 hwl
  generalize marksL n4 = M at rD
  -- ways = drawn[0]
  refine wpAny_execs_cons (as_name (s := { s with heap := h₄, toks := t₄ }) (R := LsR (TxR false) ways) F₄ al₄
    (ev_Sub (ev_name (.loc rfl F₄.ns rfl) (gr_tp gl gl _) rD rfl (by decide)) (gr_tp gl gl _) ev_int fun Z h' x y l ra rb => op_tp0 gl gl ra rb (fun _ _ => rfl)) (gl _) (fun v => .loc rfl) rfl rfl ?_)
  intro vY h₅ t₅ F₅ sx₅ al₅ rY
  have rD5 : TpR (LsR (TxR false)) (LsR (TxR false)) (ways, M) [] h₅ vD := (gr_tp gl gl _).up (sx₅.up (by simp)) rD
  -- marked = drawn[1]
  refine wpAny_execs_cons (as_name (s := { s with heap := h₅, toks := t₅ }) (R := LsR (TxR false) M) F₅ al₅
    (ev_Sub (ev_name (.loc rfl F₅.ns rfl) (gr_tp gl gl _) rD5 rfl (by decide)) (gr_tp gl gl _) ev_int fun Z h' x y l ra rb => op_tp1 gl gl ra rb (fun _ _ => rfl)) (gl _) (fun v => .loc rfl) rfl rfl ?_)
  intro vM h₆ t₆ F₆ sx₆ al₆ rM
  have rY6 : LsR (TxR false) ways [] h₆ vY := (gl _).up (sx₆.up (by simp)) rY
  have hw3 : ∀ d ∈ ways, d.length ≤ 3 := fun d hd => w15_len d (hW d hd)
  -- fronts
  refine wpAny_execs_cons (as_name (s := { s with heap := h₆, toks := t₆ }) (R := LsR (TxR false) (frontsL ways)) F₆ al₆
    (ev_two (n := fun d => d.length + 1) (f := fun d j => d.take j) (ds := ways) hA.handled (ev_name (.loc rfl F₆.ns rfl) (gl _) rY6 rfl (by decide))
      (fun d hd Z h' v C le' al' r S => ev_callT (((Bk F₆).up le'.kp).b (v := .type "range") (by decide) rfl rfl rfl) (ev_args_cons (R := IntR (d.length + 1 : Nat)) (ev_BinOp (ev_callB (((Bk F₆).up le'.kp).b (v := .builtin "len") (by decide) rfl rfl rfl) (ev_args_cons (ev_name S (gt _) r rfl (by decide)) (gt _) ev_args_nil rfl) (fun Z h' vs l r => by
            obtain ⟨v, us, rfl, r, rfl⟩ := r
            exact b_slen r (sl (by have := hw3 d hd; omega))) rfl (by decide) rfl rfl) (gr_int _) ev_int (fun Z h' x y l ra rb => op_add ra rb)) (gr_int _) ev_args_nil rfl) (fun Z h' vs l r => by
            obtain ⟨v, us, rfl, r, rfl⟩ := r
            exact b_range r) rfl (by decide) rfl rfl)
      (fun d hd j hj Z h' v u C le' al' r S S' ru => ev_upto_str (ev_name S (gt _) r rfl (by decide)) (ev_name S' (gr_int _) ru rfl (by decide)) (sl (by have := hw3 d hd; omega)) (fun _ _ => rfl))
      (fun d hd => by have := hw3 d hd; omega)
      (fun i => by
        have h1 := fronts_len (ways := ways.take i) fun w hw => hW w (List.mem_of_mem_take hw)
        have h2 : (ways.take i).length ≤ 5 := by rw [List.length_take]; omega
        show (frontsL (ways.take i)).length ≤ 1000000
        omega) rfl rfl rfl rfl (by decide) (by decide) (fun _ => rfl) (fun _ _ => rfl)) (gl _) (fun v => .cel rfl rfl) rfl rfl ?_)
  intro vF h₇ t₇ F₇ sx₇ al₇ rF
  have rY7 : LsR (TxR false) ways [] h₇ vY := (gl _).up (sx₇.up (by simp)) rY6
  have rM7 : LsR (TxR false) M [] h₇ vM := (gl _).up (sx₇.up (by simp)) rM
  have cF7 : h₇.IsCell (L + 2) (some vF) := F₇.cl.cell (Str.ofString "fronts") (L + 2) rfl
  have hfl : (frontsL ways).length ≤ 20 := by have := fronts_len hW; omega
  have hgetF : ∀ (j : Nat), j ∈ List.range (frontsL ways).length → (frontsL ways)[((j : Nat) : Int).toNat]? = some ((frontsL ways).getD j []) := fun j hj => by
    have := List.mem_range.mp hj
    simp [this]
  have hjF : ∀ (j : Nat), j ∈ List.range (frontsL ways).length → (j : Int) < 2 ^ 63 := fun j hj => by
    have := List.mem_range.mp hj; omega
  -- words
  refine wpAny_execs_cons (as_name (s := { s with heap := h₇, toks := t₇ }) (R := LsR (TxR false) (wordsL ways)) F₇ al₇
    (ev_compO (R := fun j : Nat => IntR j) (S := TxR false) (ds := List.range (frontsL ways).length) (fun j => !decide ((frontsL ways).getD j [] ∈ (frontsL ways).take j)) (fun j => (frontsL ways).getD j []) (firstL_tx (frontsL ways))
      (ev_callT ((Bk F₇).b (v := .type "range") (by decide) rfl rfl rfl) (ev_args_cons (R := IntR ((frontsL ways).length : Nat)) (ev_callB ((Bk F₇).b (v := .builtin "len") (by decide) rfl rfl rfl) (ev_args_cons (ev_name (.cell rfl rfl cF7) (gl _) rF rfl (by decide)) (gl _) ev_args_nil rfl) (fun Z h' vs l r => by
          obtain ⟨v, us, rfl, r, rfl⟩ := r
          exact b_len gt r (sl (by omega))) rfl (by decide) rfl rfl) (gr_int _) ev_args_nil rfl) (fun Z h' vs l r => by
          obtain ⟨v, us, rfl, r, rfl⟩ := r
          exact b_range r) rfl (by decide) rfl rfl)
      (fun Z h' v' le' r => ev_iter_range hA.handled (by omega) r) (fun j => gr_int j) gt (sl (by simp; omega)) rfl (.loc rfl)
      (fun j hj Z h' v C le' al' r S => ev_tests_one (tr_Cmp (Rl := TxR false ((frontsL ways).getD j []))
        (ev_Sub (ev_name (.cell rfl rfl (cF7.keeps le'.kp)) (gl _) ((gl _).up le'.lw rF) rfl (by decide)) (gl _) (ev_name S (gr_int _) r rfl (by decide)) fun Z' h'' x y l ra rb => ev_item_list ra rb (by omega) (hjF j hj) (hgetF j hj) gt (fun _ _ => rfl)) (gt _)
        (ev_upto_list (ev_name (.cell rfl rfl (cF7.keeps le'.kp)) (gl _) ((gl _).up le'.lw rF) rfl (by decide)) gt (ev_name S (gr_int _) r rfl (by decide)) (sl (by omega)) (fun _ _ => rfl))
        (fun Z' h'' x y l ra rb => op_tnin (hA.cline _ (by omega)) ra rb) rfl))
      (fun j hj _ Z h' v C le' al' r S => ev_Sub (ev_name (.cell rfl rfl (cF7.keeps le'.kp)) (gl _) ((gl _).up le'.lw rF) rfl (by decide)) (gl _) (ev_name S (gr_int _) r rfl (by decide)) fun Z' h'' x y l ra rb => ev_item_list ra rb (by omega) (hjF j hj) (hgetF j hj) gt (fun _ _ => rfl))
      rfl (by decide) (fun _ => rfl)) (gl _) (fun v => .cel rfl rfl) rfl rfl ?_)
  intro vW h₈ t₈ F₈ sx₈ al₈ rW
  have rY8 : LsR (TxR false) ways [] h₈ vY := (gl _).up (sx₈.up (by simp)) rY7
  have rM8 : LsR (TxR false) M [] h₈ vM := (gl _).up (sx₈.up (by simp)) rM7
  have cO8 : h₈.IsCell (L + 1) (some vO) := F₈.cl.cell (Str.ofString "odd") (L + 1) rfl
  have t := tr_words hW h0
  have hT : (wordsL ways).length ≤ 20 := by have := words_len hW; omega
  have hE1 := es_above hW h0
  have hE2 := es_words hW h0
  clear cF7 hgetF hjF
  generalize wordsL ways = T at rW t hT hE1 hE2
  have hEl : (ET T).length ≤ 15 := can_len _
  -- places
  refine wpAny_execs_cons (as_name (s := { s with heap := h₈, toks := t₈ }) (R := LsR (TxR o) (ET T)) F₈ al₈
    (ev_callD 10 (Bk F₈) (by decide) (by decide) (ev_args_cons (R := LsR (TxR o) (ways.map pth))
      (ev_compO (R := TxR false) (S := TxR o) (ds := ways) (fun _ => true) pth (by rw [List.filter_eq_self.mpr (by simp)]) (ev_name (.loc rfl F₈.ns rfl) (gl _) rY8 rfl (by decide)) (fun Z h' v' le' r => ev_iter_list hA.handled gt r) gt go (sl (by omega)) rfl (.loc rfl)
        (fun d hd Z h' v C le' al' r S => ev_tests_nil)
        (fun d hd _ Z h' v C le' al' r S => ev_callD 9 ((Bk F₈).up le'.kp) (by decide) (by decide) (ev_args_cons (ev_name S (gt _) r rfl (by decide)) (gt _) (ev_args_cons (R := BoolR o) (ev_name (.cell rfl rfl (cO8.keeps le'.kp)) (gr_bool o) rO' rfl (by decide)) (gr_bool _) ev_args_nil rfl) rfl) (fun Z' h'' vs l B' r => by
            obtain ⟨v, us, rfl, r, u2, us2, rfl, r2, rfl⟩ := r
            exact c_path hA B' (hW d hd) r r2) rfl rfl rfl (by decide) rfl)
        rfl (by decide) (fun _ => rfl)) (glo _) ev_args_nil rfl) (fun Z h' vs l B' r => by
        obtain ⟨v, us, rfl, r, rfl⟩ := r
        exact c_above hA B' hW (by omega) hE1 (can_srt _) (by omega) r) rfl rfl rfl (by decide) rfl) (glo _) (fun v => .loc rfl) rfl rfl ?_)
  intro vP h₉ t₉ F₉ sx₉ al₉ rP
  have rM9 : LsR (TxR false) M [] h₉ vM := (gl _).up (sx₉.up (by simp)) rM8
  have rW9 : LsR (TxR false) T [] h₉ vW := (gl _).up (sx₉.up (by simp)) rW
  have cO9 : h₉.IsCell (L + 1) (some vO) := F₉.cl.cell (Str.ofString "odd") (L + 1) rfl
  have cW9 : h₉.IsCell (L + 3) (some vW) := F₉.cl.cell (Str.ofString "words") (L + 3) rfl
  -- if places != sorted(..): return False
  refine wpAny_execs_cons (wpAny_If ((tr_Cmp (X := []) (h := h₉) (c := false) (ev_name (.loc rfl F₉.ns rfl) (glo _) rP rfl (by decide)) (glo _)
    (ev_callB ((Bk F₉).b (v := .builtin "sorted") (by decide) rfl rfl rfl) (ev_args_cons (R := LsR (TxR o) (T.map pth))
      (ev_compO (R := TxR false) (S := TxR o) (ds := T) (fun _ => true) pth (by rw [List.filter_eq_self.mpr (by simp)]) (ev_name (.cell rfl rfl cW9) (gl _) rW9 rfl (by decide)) (fun Z h' v' le' r => ev_iter_list hA.handled gt r) gt go (sl (by omega)) rfl (.loc rfl)
        (fun d hd Z h' v C le' al' r S => ev_tests_nil)
        (fun d hd _ Z h' v C le' al' r S => ev_callD 9 ((Bk F₉).up le'.kp) (by decide) (by decide) (ev_args_cons (ev_name S (gt _) r rfl (by decide)) (gt _) (ev_args_cons (R := BoolR o) (ev_name (.cell rfl rfl (cO9.keeps le'.kp)) (gr_bool o) rO' rfl (by decide)) (gr_bool _) ev_args_nil rfl) rfl) (fun Z' h'' vs l B' r => by
            obtain ⟨v, us, rfl, r, u2, us2, rfl, r2, rfl⟩ := r
            exact c_path hA B' (t.sub d hd) r r2) rfl rfl rfl (by decide) rfl)
        rfl (by decide) (fun _ => rfl)) (glo _) ev_args_nil rfl) (fun Z h' vs l r => by
        obtain ⟨v, us, rfl, r, rfl⟩ := r
        exact b_sorted (es := ET T) (ltr_tx o) (by cases o <;> decide) go r hE2 (can_srt _) (by rw [List.length_map]; omega) (hA.cline _ (by omega))) rfl (by decide) rfl rfl)
    (fun Z h' x y l ra rb => (op_tlne (hA.cline _ (by omega)) ra rb).mono fun _ _ _ _ r => r.trans (by simp)) rfl).here (s := { s with heap := h₉, toks := t₉ }) al₉ fun c hA10 t10 kA10 rc => ?_))
  obtain rfl := rc
  refine wpAny_execs_nil ?_
  have F10 := F₉.kp kA10
  have rM10 : LsR (TxR false) M [] hA10 vM := (gl _).up (Le.of_kp kA10).lw rM9
  have rW10 : LsR (TxR false) T [] hA10 vW := (gl _).up (Le.of_kp kA10).lw rW9
  have rP10 : LsR (TxR o) (ET T) [] hA10 vP := (glo _).up (Le.of_kp kA10).lw rP
  have cW10 : hA10.IsCell (L + 3) (some vW) := F10.cl.cell (Str.ofString "words") (L + 3) rfl
  -- five
  refine wpAny_execs_cons (as_name (s := { s with heap := hA10, toks := t10 }) (R := LsR (LsR (TxR false)) (fiveL T M)) F10 Al.nil
    (ev_callD 13 (Bk F10) (by decide) (by decide) (ev_args_cons (ev_name (.cell rfl rfl cW10) (gl _) rW10 rfl (by decide)) (gl _) (ev_args_cons (ev_name (.loc rfl F10.ns rfl) (gl _) rM10 rfl (by decide)) (gl _) ev_args_nil rfl) rfl) (fun Z h' vs l B' r => by
        obtain ⟨v, us, rfl, r, u2, us2, rfl, r2, rfl⟩ := r
        exact c_five hA B' t.sub (by omega) r r2) rfl rfl rfl (by decide) rfl) (gll _) (fun v => .loc rfl) rfl rfl ?_)
  intro vV h11 t11 F11 sx11 al11 rV
  have rW11 : LsR (TxR false) T [] h11 vW := (gl _).up (sx11.up (by simp)) rW10
  have rP11 : LsR (TxR o) (ET T) [] h11 vP := (glo _).up (sx11.up (by simp)) rP10
  have cW11 : h11.IsCell (L + 3) (some vW) := F11.cl.cell (Str.ofString "words") (L + 3) rfl
  have h5 : (fiveL T M).length = 5 := rfl
  have h10 := ten_len (T := T) M
  -- ten
  refine wpAny_execs_cons (as_name (s := { s with heap := h11, toks := t11 }) (R := LsR (LsR (TxR false)) (tenL T M)) F11 al11
    (ev_BinOp (Rr := LsR (LsR (TxR false)) ((fiveL T M).map fun one => T.filter fun w => !decide (w ∈ one))) (ev_name (.loc rfl F11.ns rfl) (gll _) rV rfl (by decide)) (gll _)
      (ev_compO (R := LsR (TxR false)) (S := LsR (TxR false)) (ds := fiveL T M) (fun _ => true) (fun one => T.filter fun w => !decide (w ∈ one)) (by rw [List.filter_eq_self.mpr (by simp)]) (ev_name (.loc rfl F11.ns rfl) (gll _) rV rfl (by decide)) (fun Z h' v' le' r => ev_iter_list hA.handled gl r) gl gl (sl (by omega)) rfl (.cel rfl (fun _ => rfl) (fun _ => rfl))
        (fun d hd Z h' v C le' al' r S => ev_tests_nil)
        (fun one hone _ Z h' v C le' al' r S => by
          have c1 : h'.IsCell (C + 1) (some v) := see_cell S rfl rfl
          exact ev_compO (R := TxR false) (S := TxR false) (ds := T) (fun w => !decide (w ∈ one)) id (by rw [List.map_id]) (ev_name (.cell rfl rfl (cW11.keeps le'.kp)) (gl _) ((gl _).up le'.lw rW11) rfl (by decide)) (fun Z h' v' le' r => ev_iter_list hA.handled gt r) gt gt (sl (by omega)) rfl (.loc rfl)
            (fun wd hwd Z' h'' v' C' le'' al'' r' S' => ev_tests_one (tr_Cmp (ev_name S' (gt _) r' rfl (by decide)) (gt _) (ev_name (.cell rfl rfl (c1.keeps le''.kp)) (gl _) ((gl _).up le''.lw r) rfl (by decide)) (fun Z3 h3 x y l ra rb => op_tnin (hA.cline _ (by omega)) ra rb) rfl))
            (fun wd hwd _ Z' h'' v' C' le'' al'' r' S' => ev_name S' (gt _) r' rfl (by decide)) rfl (by decide) (fun _ => rfl))
        rfl (by decide) (fun _ => rfl))
      (fun Z h' x y l ra rb => ten_eq (T := T) M ▸ op_ladd gl ra rb (sl (by rw [List.length_map]; omega)))) (gll _) (fun v => .loc rfl) rfl rfl ?_)
  intro vT h12 t12 F12 sx12 al12 rT
  have rP12 : LsR (TxR o) (ET T) [] h12 vP := (glo _).up (sx12.up (by simp)) rP11
  have cO12 : h12.IsCell (L + 1) (some vO) := F12.cl.cell (Str.ofString "odd") (L + 1) rfl
  -- due
  refine wpAny_execs_cons (as_name (s := { s with heap := h12, toks := t12 }) (R := LsR (LsR (TxR o)) (duL T M)) F12 al12
    (ev_compO (R := LsR (TxR false)) (S := LsR (TxR o)) (ds := tenL T M) (fun _ => true) (srtOf T) (by rw [List.filter_eq_self.mpr (by simp), due_eq]) (ev_name (.loc rfl F12.ns rfl) (gll _) rT rfl (by decide)) (fun Z h' v' le' r => ev_iter_list hA.handled gl r) gl glo (sl (by omega)) rfl (.loc rfl)
      (fun d hd Z h' v C le' al' r S => ev_tests_nil)
      (fun one hone _ Z h' v C le' al' r S => ev_callB (((Bk F12).up le'.kp).b (v := .builtin "sorted") (by decide) rfl rfl rfl) (ev_args_cons (R := LsR (TxR o) (one.map pth))
        (ev_compO (R := TxR false) (S := TxR o) (ds := one) (fun _ => true) pth (by rw [List.filter_eq_self.mpr (by simp)]) (ev_name S (gl _) r rfl (by decide)) (fun Z h' v' le' r => ev_iter_list hA.handled gt r) gt go (sl (by have := (ten_sub M hone).1; omega)) rfl (.loc rfl)
          (fun d hd Z h' v C le' al' r S => ev_tests_nil)
          (fun d hd _ Z' h'' v' C' le'' al'' r' S' => ev_callD 9 (((Bk F12).up le'.kp).up le''.kp) (by decide) (by decide) (ev_args_cons (ev_name S' (gt _) r' rfl (by decide)) (gt _) (ev_args_cons (R := BoolR o) (ev_name (.cell rfl rfl (cO12.keeps (le'.kp.trans le''.kp))) (gr_bool o) rO' rfl (by decide)) (gr_bool _) ev_args_nil rfl) rfl) (fun Z' h'' vs l B' r => by
              obtain ⟨v, us, rfl, r, u2, us2, rfl, r2, rfl⟩ := r
              exact c_path hA B' (t.sub d ((ten_sub M hone).2 d hd)) r r2) rfl rfl rfl (by decide) rfl)
          rfl (by decide) (fun _ => rfl)) (glo _) ev_args_nil rfl) (fun Z h' vs l r => by
          obtain ⟨v, us, rfl, r, rfl⟩ := r
          exact b_sorted (es := srtOf T one) (ltr_tx o) (by cases o <;> decide) go r (srt_perm t M hone) (can_srt _) (by rw [List.length_map]; have := (ten_sub M hone).1; omega) (hA.cline _ (by omega))) rfl (by decide) rfl rfl)
      rfl (by decide) (fun _ => rfl)) (gllo _) (fun v => .cel rfl rfl) rfl rfl ?_)
  intro vU h13 t13 F13 sx13 al13 rU
  have rP13 : LsR (TxR o) (ET T) [] h13 vP := (glo _).up (sx13.up (by simp)) rP12
  have cU13 : h13.IsCell (L + 4) (some vU) := F13.cl.cell (Str.ofString "due") (L + 4) rfl
  have hd10 := due_len (T := T) M
  have hgetU : ∀ (j : Nat), j ∈ List.range 10 → (duL T M)[((j : Nat) : Int).toNat]? = some ((duL T M).getD j []) := fun j hj => by
    have := List.mem_range.mp hj
    have h2 : j < (duL T M).length := by omega
    simp [h2]
  have hjU : ∀ (j : Nat), j ∈ List.range 10 → (j : Int) < 2 ^ 63 := fun j hj => by
    have := List.mem_range.mp hj; omega
  have Er : EqR (LsR (TxR o)) 1 := eqr_ls (eqr_tx o)
  -- once
  refine wpAny_execs_cons (as_comp (s := { s with heap := h13, toks := t13 }) (R := fun j : Nat => IntR j) (S := LsR (TxR o)) (ds := List.range 10) F13 al13 (fun j => !decide ((duL T M).getD j [] ∈ (duL T M).take j)) (fun j => (duL T M).getD j [])
    (ev_callT ((Bk F13).b (v := .type "range") (by decide) rfl rfl rfl) (ev_args_cons (R := IntR (10 : Nat)) ev_int (gr_int _) ev_args_nil rfl) (fun Z h' vs l r => by
        obtain ⟨v, us, rfl, r, rfl⟩ := r
        exact b_range r) rfl (by decide) rfl rfl)
    (fun Z h' v' le' r => ev_iter_range hA.handled (by omega) r) (fun j => gr_int j) glo (sl (by simp)) rfl (.loc rfl)
    (fun j hj Z h' v C le' al' r S => ev_tests_one (tr_Cmp (Rl := LsR (TxR o) ((duL T M).getD j []))
      (ev_Sub (ev_name (.cell rfl rfl (cU13.keeps le'.kp)) (gllo _) ((gllo _).up le'.lw rU) rfl (by decide)) (gllo _) (ev_name S (gr_int _) r rfl (by decide)) fun Z' h'' x y l ra rb => ev_item_list ra rb (by omega) (hjU j hj) (hgetU j hj) glo (fun _ _ => rfl)) (glo _)
      (ev_upto_list (ev_name (.cell rfl rfl (cU13.keeps le'.kp)) (gllo _) ((gllo _).up le'.lw rU) rfl (by decide)) glo (ev_name S (gr_int _) r rfl (by decide)) (sl (by omega)) (fun _ _ => rfl))
      (fun Z' h'' x y l ra rb => (op_notIn Er glo (hA.cline _ (by omega)) ra rb).mono fun _ _ _ _ r => r.trans (by congr 2; try exact decide_eq_decide.mpr Iff.rfl)) rfl))
    (fun j hj _ Z h' v C le' al' r S => ev_Sub (ev_name (.cell rfl rfl (cU13.keeps le'.kp)) (gllo _) ((gllo _).up le'.lw rU) rfl (by decide)) (gllo _) (ev_name S (gr_int _) r rfl (by decide)) fun Z' h'' x y l ra rb => ev_item_list ra rb (by omega) (hjU j hj) (hgetU j hj) glo (fun _ _ => rfl))
    rfl (by decide) (fun _ => rfl) rfl rfl rfl ?_)
  intro vC h14 t14 F14 sx14 al14 rC
  have rC' : LsR (LsR (TxR o)) (firstL [] (duL T M)) [] h14 vC := by
    have e : firstL [] (duL T M) = ((List.range 10).filter fun j => !decide ((duL T M).getD j [] ∈ (duL T M).take j)).map fun j => (duL T M).getD j [] := by rw [← firstL_ls, hd10]
    rw [e]; exact rC
  have rP14 : LsR (TxR o) (ET T) [] h14 vP := (glo _).up (sx14.up (by simp)) rP13
  have rU14 : LsR (LsR (TxR o)) (duL T M) [] h14 vU := (gllo _).up (sx14.up (by simp)) rU
  have cU14 : h14.IsCell (L + 4) (some vU) := F14.cl.cell (Str.ofString "due") (L + 4) rfl
  have B14 := Bk F14
  obtain ⟨o11, nm11, q11, doc11, pm11, an11, cd11, ct11, e11, d11, c11⟩ := B14.fn 11 (by decide)
  -- told
  refine wpAny_execs_cons (wpAny_Assign_Name (Call_ (see_load (s := { s with heap := h14, toks := t14 }) (B14.f 11 (by decide) rfl rfl) rfl (by decide) (callWith_def d11 (Ev.here (s := { s with heap := h14, toks := t14 }) (X := []) (R := Ls2 [LsR (TxR o) (can T fun w => decide (w ∈ M)), LsR (TxR o) (ET T)])
    (ev_args_cons (ev_Sub (ev_name (.cell rfl rfl cU14) (gllo _) rU14 rfl (by decide)) (gllo _) (ev_int (i := 0)) fun Z h' x y l ra rb => ev_item_list ra rb (by omega) (by omega) (due_0 (T := T) M) glo (fun _ _ => rfl)) (glo _) (ev_args_cons (ev_name (.loc rfl F14.ns rfl) (glo _) rP14 rfl (by decide)) (glo _) ev_args_nil rfl) rfl) Al.nil fun vs h15 t15 k15 r => ?_) rfl))) rfl)
  obtain ⟨w₁, us, rfl, rw₁, w₂, us2, rfl, rw₂, rfl⟩ := r
  have F15 := F14.kp k15
  refine ⟨k15 _ _ e11, c_allsets (s := { s with heap := h15, toks := t15 }) (Fs := [L]) (Y := []) (Es := ET T) (K := KT T) (G := fun S => ∃ p, S = can T p) hA hfr (fun x hx => hx) (ff_of F15 trivial rfl rfl) (fun x hx => ?_) (Bk F15) Al.nil (gd_T t) ⟨_, rfl⟩ rw₁ rw₂ fun vL h16 t16 kf16 rL => ?_⟩
  · rw [List.mem_singleton.mp hx]; exact ⟨_, F15.ns⟩
  have nf := nf_of (outer := []) F15 (fun b hb => by cases hb)
  have F16 := F15.kf kf16
  have sx16 : Sx [] [] (fenv 14 q cd L af) h15 h16 := kf_sx kf16 nf
  refine st_name (s := { s with heap := h16, toks := t16 }) F16 (.loc rfl) rfl fun h17 t17 F17 sx17 => ?_
  have lw17 : Lw [] h14 [] h17 := ((Sx.of_kp (Fs := []) (M := []) (env := fenv 14 q cd L af) k15).trans (sx16.trans (sx17 []))).up (by simp)
  have rL17 : LsR (LsR (TxR o)) (told T M) [] h17 vL := (gllo _).up ((sx17 []).up (by simp)) rL
  have rC17 : LsR (LsR (TxR o)) (firstL [] (duL T M)) [] h17 vC := (gllo _).up lw17 rC'
  have rU17 : LsR (LsR (TxR o)) (duL T M) [] h17 vU := (gllo _).up lw17 rU14
  have cU17 : h17.IsCell (L + 4) (some vU) := F17.cl.cell (Str.ofString "due") (L + 4) rfl
  obtain ⟨es, hes, hsrt⟩ := sorted_sets (told T M) (told_nd M)
  have htl := told_len60 (T := T) M
  have hes2 : es.Perm (firstL [] (duL T M)) := hes.trans (told_once t M)
  have hol : (firstL [] (duL T M)).length < 64 := by rw [← (told_once t M).length_eq]; omega
  have tsub : ∀ d ∈ told T M, d ∈ duL T M := told_sub t M
  have tsup : ∀ d ∈ (duL T M).take 5, d ∈ told T M := fun d hd => told_sup t M d (List.mem_of_mem_take hd)
  have hc1 := cmp_1 t M
  have hc2 := cmp_2 t M
  have hlast := last_eq t M
  have h5d : ((duL T M).take 5).length ≤ 5 := by rw [List.length_take]; omega
  -- if sorted(told) != sorted(once) or ..: return False
  refine wpAny_execs_cons (wpAny_If ((tr_or (X := []) (h := h17) (b₁ := false) (b₂ := false)
    (tr_Cmp (Rl := LsR (LsR (TxR o)) es) (Rr := LsR (LsR (TxR o)) es)
      (ev_callB ((Bk F17).b (v := .builtin "sorted") (by decide) rfl rfl rfl) (ev_args_cons (ev_name (.loc rfl F17.ns rfl) (gllo _) rL17 rfl (by decide)) (gllo _) ev_args_nil rfl) (fun Z h' vs l r => by
        obtain ⟨v, us, rfl, r, rfl⟩ := r
        exact b_sorted (es := es) (ltr_ls o) (by decide) glo r hes hsrt (by omega) (hA.cline _ (by omega))) rfl (by decide) rfl rfl) (gllo _)
      (ev_callB ((Bk F17).b (v := .builtin "sorted") (by decide) rfl rfl rfl) (ev_args_cons (ev_name (.loc rfl F17.ns rfl) (gllo _) rC17 rfl (by decide)) (gllo _) ev_args_nil rfl) (fun Z h' vs l r => by
        obtain ⟨v, us, rfl, r, rfl⟩ := r
        exact b_sorted (es := es) (ltr_ls o) (by decide) glo r hes2 hsrt hol (hA.cline _ (by omega))) rfl (by decide) rfl rfl)
      (fun Z h' x y l ra rb => (op_lne Er glo (hA.cline _ (by omega)) ra rb).mono fun _ _ _ _ r => r.trans (by simp)) rfl)
    (fun _ => tr_Cmp (Rl := BoolR true) (Rr := BoolR true)
      (ev_callD 5 (Bk F17) (by decide) (by decide) (ev_args_cons (ev_name (.loc rfl F17.ns rfl) (gllo _) rL17 rfl (by decide)) (gllo _) (ev_args_cons (ev_name (.cell rfl rfl cU17) (gllo _) rU17 rfl (by decide)) (gllo _) ev_args_nil rfl) rfl) (fun Z h' vs l B' r => by
        obtain ⟨v, us, rfl, r, u2, us2, rfl, r2, rfl⟩ := r
        have := c_orderless hA B' glo Er (by omega) (by omega) (by omega) tsub r r2 (prog := prog) (w := w)
        rwa [hc1] at this) rfl rfl rfl (by decide) rfl) (gr_bool _) ev_bool (fun Z h' x y l ra rb => op_isNot ra rb) rfl)).here (s := { s with heap := h17, toks := t17 }) Al.nil fun c h18 t18 k18 rc => ?_))
  obtain rfl := rc
  refine wpAny_execs_nil ?_
  have F18 := F17.kp k18
  have rL18 : LsR (LsR (TxR o)) (told T M) [] h18 vL := (gllo _).up (Le.of_kp k18).lw rL17
  have rU18 : LsR (LsR (TxR o)) (duL T M) [] h18 vU := (gllo _).up (Le.of_kp k18).lw rU17
  have cU18 : h18.IsCell (L + 4) (some vU) := F18.cl.cell (Str.ofString "due") (L + 4) rfl
  -- return .. and ..
  refine wpAny_execs_cons (wpAny_Return_some ((ev_and (X := []) (h := h18) (b₁ := true) (b₂ := true)
    (ev_Cmp (Rl := BoolR false) (Rr := BoolR false)
      (ev_callD 5 (Bk F18) (by decide) (by decide) (ev_args_cons (ev_upto_list (k := 5) (ev_name (.cell rfl rfl cU18) (gllo _) rU18 rfl (by decide)) glo ev_int (sl (by omega)) (fun _ _ => rfl)) (gllo _) (ev_args_cons (ev_name (.loc rfl F18.ns rfl) (gllo _) rL18 rfl (by decide)) (gllo _) ev_args_nil rfl) rfl) (fun Z h' vs l B' r => by
        obtain ⟨v, us, rfl, r, u2, us2, rfl, r2, rfl⟩ := r
        have := c_orderless hA B' glo Er (by omega) (by omega) (by omega) tsup r r2 (prog := prog) (w := w)
        rwa [hc2] at this) rfl rfl rfl (by decide) rfl) (gr_bool _) ev_bool (fun Z h' x y l ra rb => op_is ra rb) rfl)
    (fun _ => ev_Cmp (Rl := LsR (LsR (TxR o)) []) (Rr := LsR (LsR (TxR o)) [])
      (ev_compO (R := LsR (TxR o)) (S := LsR (TxR o)) (ds := (duL T M).take 5) (fun one => decide (one ∈ (duL T M).drop 5)) id (by rw [List.map_id, hlast])
        (ev_upto_list (k := 5) (ev_name (.cell rfl rfl cU18) (gllo _) rU18 rfl (by decide)) glo ev_int (sl (by omega)) (fun _ _ => rfl)) (fun Z h' v' le' r => ev_iter_list hA.handled glo r) glo glo (sl (by omega)) rfl (.loc rfl)
        (fun one hone Z h' v C le' al' r S => ev_tests_one (tr_Cmp (ev_name S (glo _) r rfl (by decide)) (glo _) (ev_from_list (k := 5) (ev_name (.cell rfl rfl (cU18.keeps le'.kp)) (gllo _) ((gllo _).up le'.lw rU18) rfl (by decide)) glo ev_int (sl (by omega)) (fun _ _ => rfl))
          (fun Z' h'' x y l ra rb => (op_in Er glo (hA.cline _ (by omega)) ra rb).mono fun _ _ _ _ r => r.trans (by congr 1; try exact decide_eq_decide.mpr Iff.rfl)) rfl))
        (fun one hone _ Z h' v C le' al' r S => ev_name S (glo _) r rfl (by decide)) rfl (by decide) (fun _ => rfl))
      (gllo _) (ev_List (R := LsR (TxR o)) (ds := []) ev_args_nil glo (fun Z h' vs r => by rw [show vs = [] from r]; exact .nil) (sl (by simp)))
      (fun Z h' x y l ra rb => (op_leq Er glo (hA.cline _ (by omega)) ra rb).mono fun _ _ _ _ r => r.trans (by simp)) rfl)).here (s := { s with heap := h18, toks := t18 }) Al.nil fun v h19 t19 k19 r => ?_))
  obtain rfl := r
  exact k h19 t19 (F18.kept.trans k19)
end
end Mine
end

section
set_option maxRecDepth 100000
set_option maxHeartbeats 16000000
namespace Mine
open PySem PySem.W PyProof.Rows PySem.Calls PySem.SeqAt

/-! what the top leaves -/
def faN : Nat → Addr
  | 1 => 21 | 3 => 29 | 4 => 36 | 5 => 43 | 7 => 50 | 9 => 55 | 10 => 60 | 11 => 67 | 12 => 72 | 13 => 77 | _ => 0
def FnIn (K : Frag) (n : Nat) (a : Addr) (kd : Value) : Prop := ∃ nm q doc pm an cd ct oc od sl, K.lookup a = some ⟨oc, od, .func (ffd n nm q kd doc pm an cd ct), sl⟩ ∧ codeIn K cd q = true
theorem isFn_of {K : Frag} {h : Heap} {n : Nat} {a : Addr} (X : K.In h) (f : FnIn K n a .none) : IsFn h n a := by
  obtain ⟨nm, q, doc, pm, an, cd, ct, oc, od, sl, e, c⟩ := f
  exact ⟨_, nm, q, doc, pm, an, cd, ct, X _ _ e, rfl, codeRec_of X c⟩
structure TopIn (K : Frag) : Prop where
  f1 : FnIn K 1 21 .none
  f3 : FnIn K 3 29 (.ref 22)
  f4 : FnIn K 4 36 .none
  f5 : FnIn K 5 43 .none
  f7 : FnIn K 7 50 .none
  f9 : FnIn K 9 55 .none
  f10 : FnIn K 10 60 .none
  f11 : FnIn K 11 67 .none
  f12 : FnIn K 12 72 .none
  f13 : FnIn K 13 77 .none
  kd : nsOkIn K 22 = true ∧ ∃ oc od es n sl u, K.lookup 22 = some ⟨oc, od, .dict es n, sl⟩ ∧ nsFind es (Str.ofString "unhashable_fallback") = some u
  mg : ∀ n ∈ 3 :: fns, nsIn K mainGlobals (fname n) = some (some (.ref (faN n)))
  mb : ∀ p ∈ bnames, nsIn K mainGlobals p.1 = some none
theorem boot_b : ∀ p ∈ bnames, bootBuiltins p.1 = some p.2 ∧ p.1 ≠ "__name__" := by
  simp only [bnames, List.forall_mem_cons, List.forall_mem_nil]
  refine ⟨⟨by kernel_rfl, by decide⟩, ⟨by kernel_rfl, by decide⟩, ⟨by kernel_rfl, by decide⟩, ⟨by kernel_rfl, by decide⟩, ⟨by kernel_rfl, by decide⟩, ⟨by kernel_rfl, by decide⟩, ⟨by kernel_rfl, by decide⟩, ⟨by kernel_rfl, by decide⟩, ⟨by kernel_rfl, by decide⟩, ⟨by kernel_rfl, by decide⟩, ⟨by kernel_rfl, by decide⟩, by simp⟩
theorem bs_of {K : Frag} {p : Program} {loose : List Str} {mean : ExcName → Option Value} {mg mb : Str → Option Value} {h : Heap} (X : K.In h) (T : Top p loose mean mg mb h) (I : TopIn K) : Bs faN h where
  lim := T.nolimit
  fn := by
    simp only [fns, List.forall_mem_cons, List.forall_mem_nil]
    exact ⟨isFn_of X I.f1, isFn_of X I.f4, isFn_of X I.f5, isFn_of X I.f7, isFn_of X I.f9, isFn_of X I.f10, isFn_of X I.f11, isFn_of X I.f12, isFn_of X I.f13, by simp⟩
  d3 := by
    obtain ⟨nm, q, doc, pm, an, cd, ct, oc, od, sl, e, c⟩ := I.f3
    obtain ⟨e1, oc', od', es, n', sl', u, e2, e3⟩ := I.kd
    refine ⟨_, nm, q, doc, pm, an, cd, ct, 22, h.nsMap 22, u, X _ _ e, rfl, codeRec_of X c, .of_isNs (isNs_of_in X e1), ?_⟩
    unfold Heap.nsMap
    rw [X _ _ e2]
    exact e3
  glob := ⟨mg, mb, T.g, T.b, fun n hn => mg_of X T.g (I.mg n hn), fun q hq => ⟨ns_none_of X T.g (I.mb q hq), by rw [T.builtins _ (boot_b q hq).2]; exact (boot_b q hq).1⟩⟩
end Mine
end

section
set_option maxRecDepth 100000
set_option maxHeartbeats 16000000
namespace Mine
open PySem PySem.W PyProof.Rows PySem.Calls PySem.SeqAt
theorem fin_good {c : ClaimW} {cl : Str → Option Addr} {mean : ExcName → Option Value} {args : List WData} {s₁ : Shared} {h' : Heap} {tk : Nat} (hr : ∀ cls, c.raises args cls = false) (hp : c.post args (.bool true) args = true) (hg : s₁.gens = #[]) (kp : Kp s₁.heap h') :
    GoodW c cl mean args s₁ (.ok (.ret (.bool true))) { s₁ with heap := h', toks := tk } :=
  ⟨.inl ⟨.bool true, .bool true, [], rfl, hr, .bool true, hp, fun _ => ⟨List.nodup_nil, fun a ha => nomatch ha⟩⟩, kp, rfl, hg⟩
theorem join {w : World} {prog p : Program} {s₁ : Shared} {loose : List Str} {mean : ExcName → Option Value} {mg mb m cm : Str → Option Value} {K : Frag} {q : Str} {cd : Value} {af b : Addr} {h₁ : Heap} {tk : Nat} {cells : List (Addr × Obj)} {vs : List Value} {ns : List Int} {Q : Flow → Shared → Prop} {E : Value → Shared → Prop}
    (X : K.In s₁.heap) (T : Top p loose mean mg mb s₁.heap) (I : TopIn K) (F : Fr s₁.heap s₁.heap.objs.size h₁ m) (hm : m (Str.ofString "script") = some (.ref b))
    (N : News s₁.heap s₁.heap.objs.size h₁ cells) (C : CellsAre cm (cellsFrom (s₁.heap.objs.size + 1) (fscope 14).names []) cells)
    (hl : s₁.heap.IsList b vs.toArray) (hi : IntsAre vs ns) (hlen : ns.length ≤ 1000) (k : ∀ h' tk, Kp s₁.heap h' → Q (.ret (.bool true)) { s₁ with heap := h', toks := tk }) :
    wpAny (model prog w) (callerA.deeper (fenv 14 q cd s₁.heap.objs.size af)) (execs (fbody 14) (fenv 14 q cd s₁.heap.objs.size af)) Q E { s₁ with heap := h₁, toks := tk } := by
  have e : ∀ L : Nat, cellsFrom (L + 1) (fscope 14).names [] = [(Str.ofString "due", L + 1 + 1 + 1 + 1), (Str.ofString "words", L + 1 + 1 + 1), (Str.ofString "fronts", L + 1 + 1), (Str.ofString "odd", L + 1)] := fun L => rfl
  refine c_law ⟨rfl, by show 1 + claimMargin + 1 + 4 < 900; decide, by show 4 + 3 + 4 * 4 < 900; decide⟩ rfl (bs_of X T I) ⟨F.ns, Kp.kf F.keep, F.above, Cl.of_news (own := []) N C ?_ ?_⟩ hm hl hi hlen k
  · show List.Pairwise _ (cellsFrom (s₁.heap.objs.size + 1) (fscope 14).names [])
    rw [e]
    simp only [List.pairwise_cons, List.mem_cons, List.not_mem_nil, or_false, forall_eq_or_imp, forall_eq, List.Pairwise.nil, and_true, false_imp_iff, implies_true]
    refine ⟨⟨?_, ?_, ?_⟩, ⟨?_, ?_⟩, ?_⟩ <;> (intro q; have q2 : (_ : Nat) = (_ : Nat) := q; omega)
  · show ∀ n c, (n, c) ∈ cellsFrom (s₁.heap.objs.size + 1) (fscope 14).names [] → s₁.heap.objs.size < c
    rw [e]
    intro n c h
    simp only [List.mem_cons, Prod.mk.injEq, List.not_mem_nil, or_false] at h
    show (s₁.heap.objs.size : Nat) < (c : Nat)
    rcases h with ⟨_, rfl⟩ | ⟨_, rfl⟩ | ⟨_, rfl⟩ | ⟨_, rfl⟩ <;> omega
end Mine
end

namespace Mine
open PySem PySem.W PyProof.Rows
set_option maxRecDepth 100000 in
set_option maxHeartbeats 16000000 in
open_top hd for PySem.Challenge.rw_op0009_01
end Mine

open PySem PySem.W PyProof.Rows
set_option maxRecDepth 100000 in
set_option maxHeartbeats 16000000 in
theorem PySem.Challenge.cw_op0009_01_holds : PySem.Challenge.rw_op0009_01.Holds :=
  Mine.hd (by
    k_go0
    refine Mine.join (by assumption) (by assumption) ?top (by assumption) rfl (by assumption) (by assumption) (by assumption) (by assumption) ?len fun h' tk kp => Mine.fin_good (fun _ => rfl) ?post (by assumption) kp
    case len => (simp only at *; omega)
    case post => wrow_post
    case top =>
      refine ⟨⟨_, _, _, _, _, _, _, _, _, _, rfl, by kernel_rfl⟩, ⟨_, _, _, _, _, _, _, _, _, _, rfl, by kernel_rfl⟩, ⟨_, _, _, _, _, _, _, _, _, _, rfl, by kernel_rfl⟩, ⟨_, _, _, _, _, _, _, _, _, _, rfl, by kernel_rfl⟩, ⟨_, _, _, _, _, _, _, _, _, _, rfl, by kernel_rfl⟩, ⟨_, _, _, _, _, _, _, _, _, _, rfl, by kernel_rfl⟩, ⟨_, _, _, _, _, _, _, _, _, _, rfl, by kernel_rfl⟩, ⟨_, _, _, _, _, _, _, _, _, _, rfl, by kernel_rfl⟩, ⟨_, _, _, _, _, _, _, _, _, _, rfl, by kernel_rfl⟩, ⟨_, _, _, _, _, _, _, _, _, _, rfl, by kernel_rfl⟩, ⟨by kernel_rfl, _, _, _, _, _, _, rfl, rfl⟩, ?_, ?_⟩
      · simp only [Mine.fns, List.forall_mem_cons, List.forall_mem_nil]
        exact ⟨by kernel_rfl, by kernel_rfl, by kernel_rfl, by kernel_rfl, by kernel_rfl, by kernel_rfl, by kernel_rfl, by kernel_rfl, by kernel_rfl, by kernel_rfl, fun _ h => nomatch h⟩
      · simp only [Mine.bnames, List.forall_mem_cons, List.forall_mem_nil]
        exact ⟨by kernel_rfl, by kernel_rfl, by kernel_rfl, by kernel_rfl, by kernel_rfl, by kernel_rfl, by kernel_rfl, by kernel_rfl, by kernel_rfl, by kernel_rfl, by kernel_rfl, fun _ h => nomatch h⟩)
