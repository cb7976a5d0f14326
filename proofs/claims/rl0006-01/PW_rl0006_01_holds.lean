import PyProof.Rows.All
import Wide.All
import OpenK.AllK
import Wide.FinOn
import PySem.Challenge.RW_rl0006_01
open PySem PySem.W PySem.Calls PyProof.Rows
set_option Elab.async false
set_option linter.unusedVariables false
section
namespace Mine

/-- all objects stay as they are -/
abbrev Kp (h h' : Heap) : Prop := ∀ b o, h.get? b = some o → h'.get? b = some o
/-- the lists and tuples outside av stay as they are -/
abbrev SqK (av : Addr → Prop) (h h' : Heap) : Prop := ∀ b o, ¬ av b → (∃ xs n, o.data = .seq xs n) → h.get? b = some o → h'.get? b = some o
theorem Kp.sqk {av : Addr → Prop} {h h' : Heap} (k : Kp h h') : SqK av h h' := fun b o _ _ e => k b o e
theorem Kp.trans {h h' h'' : Heap} (k : Kp h h') (k' : Kp h' h'') : Kp h h'' := fun b o e => k' b o (k b o e)

/-- what a value is, up to tokens and addresses; av: addresses that it does not lean on -/
structure VP where
  P : (Addr → Prop) → Heap → Value → Prop
  up : ∀ {av : Addr → Prop} {h h' : Heap} {v : Value}, P av h v → SqK av h h' → P av h' v
  grow : ∀ {av av' : Addr → Prop} {h : Heap} {v : Value}, P av h v → (∀ b, av' b → av b ∨ h.get? b = none) → P av' h v

def VInt (i : Int) : VP := ⟨fun _ _ v => ∃ t, v = .int i t, fun h _ => h, fun h _ => h⟩
def VStr (x : Str) : VP := ⟨fun _ _ v => ∃ t, v = .str x t, fun h _ => h, fun h _ => h⟩
def VBool (b : Bool) : VP := ⟨fun _ _ v => v = .bool b, fun h _ => h, fun h _ => h⟩
def VRef (a : Addr) : VP := ⟨fun _ _ v => v = .ref a, fun h _ => h, fun h _ => h⟩
def VNone : VP := ⟨fun _ _ v => v = .none, fun h _ => h, fun h _ => h⟩
def VEq (w : Value) : VP := ⟨fun _ _ v => v = w, fun h _ => h, fun h _ => h⟩

theorem Paired.imp {α β : Type} {F G : α → β → Prop} (hi : ∀ a b, F a b → G a b) : ∀ {l : List α} {m : List β}, Paired F l m → Paired G l m
  | _, _, .nil => .nil
  | _, _, .cons h t => .cons (hi _ _ h) (Paired.imp hi t)
theorem Paired.get {α β : Type} {F : α → β → Prop} : ∀ {l : List α} {m : List β}, Paired F l m → ∀ {i : Nat} {b : β}, m[i]? = some b → ∃ a, l[i]? = some a ∧ F a b
  | _, _, .nil, i, b, h => by simp at h
  | _, _, .cons (a := a) h t, 0, b', hb => by simp at hb; subst hb; exact ⟨a, by simp, h⟩
  | _, _, .cons h t, i + 1, b, hb => by
    obtain ⟨a, ha, hF⟩ := Paired.get t (i := i) (b := b) (by simpa using hb)
    exact ⟨a, by simpa using ha, hF⟩
theorem Paired.get' {α β : Type} {F : α → β → Prop} : ∀ {l : List α} {m : List β}, Paired F l m → ∀ {i : Nat} {a : α}, l[i]? = some a → ∃ b, m[i]? = some b ∧ F a b
  | _, _, .nil, i, b, h => by simp at h
  | _, _, .cons (b := b) h t, 0, a', hb => by simp at hb; subst hb; exact ⟨b, by simp, h⟩
  | _, _, .cons h t, i + 1, b, hb => by
    obtain ⟨a, ha, hF⟩ := Paired.get' t (i := i) (a := b) (by simpa using hb)
    exact ⟨a, by simpa using ha, hF⟩
theorem Paired.append {α β : Type} {F : α → β → Prop} : ∀ {l l' : List α} {m m' : List β}, Paired F l m → Paired F l' m' → Paired F (l ++ l') (m ++ m')
  | _, _, _, _, .nil, h => h
  | _, _, _, _, .cons h t, h' => .cons h (Paired.append t h')
theorem Paired.take {α β : Type} {F : α → β → Prop} : ∀ {l : List α} {m : List β} (n : Nat), Paired F l m → Paired F (l.take n) (m.take n)
  | _, _, n, .nil => by simp; exact .nil
  | _, _, 0, .cons h t => by simp; exact .nil
  | _, _, n + 1, .cons h t => by simpa using Paired.cons h (Paired.take n t)
theorem Paired.drop {α β : Type} {F : α → β → Prop} : ∀ {l : List α} {m : List β} (n : Nat), Paired F l m → Paired F (l.drop n) (m.drop n)
  | _, _, n, .nil => by simp; exact .nil
  | _, _, 0, .cons h t => by simpa using Paired.cons h t
  | _, _, n + 1, .cons h t => by simpa using Paired.drop n t
theorem Paired.reverse {α β : Type} {F : α → β → Prop} : ∀ {l : List α} {m : List β}, Paired F l m → Paired F l.reverse m.reverse
  | _, _, .nil => by simp; exact .nil
  | _, _, .cons h t => by simpa using Paired.append (Paired.reverse t) (.cons h .nil)

/-- the items of a list, one VP each -/
def Items (av : Addr → Prop) (h : Heap) (vs : List Value) (Vs : List VP) : Prop := Paired (fun v (V : VP) => V.P av h v) vs Vs
theorem Items.up {av : Addr → Prop} {h h' : Heap} {vs : List Value} {Vs : List VP} (x : Items av h vs Vs) (k : SqK av h h') : Items av h' vs Vs := Paired.imp (fun _ V p => V.up p k) x
theorem Items.grow {av av' : Addr → Prop} {h : Heap} {vs : List Value} {Vs : List VP} (x : Items av h vs Vs) (k : ∀ b, av' b → av b ∨ h.get? b = none) : Items av' h vs Vs := Paired.imp (fun _ V p => V.grow p k) x
theorem Items.length {av : Addr → Prop} {h : Heap} {vs : List Value} {Vs : List VP} (x : Items av h vs Vs) : vs.length = Vs.length := Paired.length x

def VList (Vs : List VP) : VP where
  P := fun av h v => ∃ a vs, v = .ref a ∧ ¬ av a ∧ h.IsList a vs.toArray ∧ Items av h vs Vs
  up := by
    rintro av h h' v ⟨a, vs, e, ha, ⟨o, ho, hc, n, hd⟩, hi⟩ k
    exact ⟨a, vs, e, ha, ⟨o, k a o ha ⟨_, n, hd⟩ ho, hc, n, hd⟩, hi.up k⟩
  grow := by
    rintro av av' h v ⟨a, vs, e, ha, hl, hi⟩ k
    refine ⟨a, vs, e, (fun hb => (k a hb).elim ha fun hn => ?_), hl, hi.grow k⟩
    obtain ⟨o, ho, _⟩ := hl; rw [hn] at ho; cases ho
def VTup (Vs : List VP) : VP where
  P := fun av h v => ∃ a vs, v = .ref a ∧ ¬ av a ∧ IsTup h a vs.toArray ∧ Items av h vs Vs
  up := by
    rintro av h h' v ⟨a, vs, e, ha, ⟨o, ho, hc, n, hd⟩, hi⟩ k
    exact ⟨a, vs, e, ha, ⟨o, k a o ha ⟨_, n, hd⟩ ho, hc, n, hd⟩, hi.up k⟩
  grow := by
    rintro av av' h v ⟨a, vs, e, ha, hl, hi⟩ k
    refine ⟨a, vs, e, (fun hb => (k a hb).elim ha fun hn => ?_), hl, hi.grow k⟩
    obtain ⟨o, ho, _⟩ := hl; rw [hn] at ho; cases ho

/-- what is known of a heap; kept by growing -/
structure HP where
  P : (Addr → Prop) → Heap → Prop
  up : ∀ {av : Addr → Prop} {h h' : Heap}, P av h → Kp h h' → P av h'

/-- the one state goes over into the other: the heap grows, all else stays -/
def Kps (s s' : Shared) : Prop := Keeps s s'
theorem Kps.refl (s : Shared) : Kps s s := ⟨s.heap, s.toks, rfl, fun _ _ e => e⟩
theorem Kps.trans {s s' s'' : Shared} (h : Kps s s') (h' : Kps s' s'') : Kps s s'' := by
  obtain ⟨h1, t1, rfl, k1⟩ := h
  obtain ⟨h2, t2, rfl, k2⟩ := h'
  exact ⟨h2, t2, rfl, fun b o e => k2 b o (k1 b o e)⟩
theorem Kps.kp {s s' : Shared} (h : Kps s s') : Kp s.heap s'.heap := by obtain ⟨h1, t1, rfl, k1⟩ := h; exact k1
theorem Kps.sqk {av : Addr → Prop} {s s' : Shared} (h : Kps s s') : SqK av s.heap s'.heap := Kp.sqk h.kp
theorem Kps.tok {s : Shared} (k : Nat) : Kps s { s with toks := k } := ⟨s.heap, k, rfl, fun _ _ e => e⟩
theorem Kps.push {s : Shared} (o : Obj) (k : Nat) : Kps s { s with heap := s.heap.push o, toks := k } := ⟨_, k, rfl, fun b _ e => Heap.get?_push_of_some _ e⟩
theorem Kps.of {s : Shared} {h' : Heap} {k : Nat} (x : Kp s.heap h') : Kps s { s with heap := h', toks := k } := ⟨h', k, rfl, x⟩

/-- av is off what will be made -/
def Off (av : Addr → Prop) (h : Heap) : Prop := ∀ b, av b → ∃ o, h.get? b = some o
theorem Off.up {av : Addr → Prop} {h h' : Heap} (x : Off av h) (k : Kp h h') : Off av h' := fun b hb => let ⟨o, e⟩ := x b hb; ⟨o, k b o e⟩
theorem Off.new {av : Addr → Prop} {h : Heap} (x : Off av h) : ¬ av h.objs.size := fun hb => let ⟨_, e⟩ := x _ hb; Nat.lt_irrefl _ (Heap.lt_size e)
theorem Off.fresh {av : Addr → Prop} {h : Heap} {a : Addr} (x : Off av h) (ha : h.get? a = none) : ¬ av a := fun hb => by obtain ⟨_, e⟩ := x _ hb; rw [ha] at e; cases e

/-- from this state the tree gives a V and keeps the heap -/
def Op {α : Type} (prog : Program) (w : World) (A : Around) (t : Sem α) (s : Shared) (V : Heap → α → Prop) : Prop :=
  ∀ (E : Value → Shared → Prop) (Q : α → Shared → Prop), (∀ y s', V s'.heap y → Kps s s' → Q y s') → wpAny (model prog w) A t Q E s
/-- from every state that G tells of -/
def Tr {α : Type} (prog : Program) (w : World) (A : Around) (G : HP) (t : Sem α) (V : (Addr → Prop) → Heap → α → Prop) : Prop :=
  ∀ (s : Shared) (av : Addr → Prop), Off av s.heap → G.P av s.heap → Op prog w A t s (V av)
abbrev Ev (prog : Program) (w : World) (A : Around) (env : Env) (G : HP) (e : Expr) (V : VP) : Prop := Tr prog w A G (eval e env) V.P
abbrev Tst (prog : Program) (w : World) (A : Around) (env : Env) (G : HP) (e : Expr) (b : Bool) : Prop := Tr prog w A G (isTrue e env (eval e env)) (fun _ _ r => r = b)

section
variable {prog : Program} {w : World} {A : Around} {env : Env} {G : HP}

theorem Op.of_post {α : Type} {t : Sem α} {s : Shared} {V : Heap → α → Prop} (h : ∀ E, wpAny (model prog w) A t (fun y s' => V s'.heap y ∧ Keeps s s') E s) : Op prog w A t s V :=
  fun E Q hq => wpAny_mono (h E) (fun y s' p => hq y s' p.1 p.2) fun _ _ e => e
theorem Op.post {α : Type} {t : Sem α} {s : Shared} {V : Heap → α → Prop} (h : Op prog w A t s V) (E) : wpAny (model prog w) A t (fun y s' => V s'.heap y ∧ Keeps s s') E s := h E _ fun _ _ p k => ⟨p, k⟩
theorem Op.mono {α : Type} {t : Sem α} {s : Shared} {V W : Heap → α → Prop} (h : Op prog w A t s V) (hi : ∀ h y, V h y → W h y) : Op prog w A t s W := fun E Q hq => h E Q fun y s' p k => hq y s' (hi _ _ p) k

theorem ev_int {i : Int} {k pos} : Ev prog w A env G (.Constant (.int i) k pos) (VInt i) := fun s av _ _ E Q hq => wpAny_Constant_int (hq _ _ ⟨_, rfl⟩ (Kps.tok _))
theorem ev_str {x : Str} {k pos} : Ev prog w A env G (.Constant (.str x) k pos) (VStr x) := fun s av _ _ E Q hq => wpAny_Constant_str (hq _ _ ⟨_, rfl⟩ (Kps.tok _))
theorem ev_bool {b : Bool} {k pos} : Ev prog w A env G (.Constant (.bool b) k pos) (VBool b) := fun s av _ _ E Q hq => wpAny_Constant_bool (hq _ _ rfl (Kps.refl _))

theorem ev_BinOp {l op r pos} {V₁ V₂ V : VP} (h₁ : Ev prog w A env G l V₁) (h₂ : Ev prog w A env G r V₂)
    (hop : ∀ a b (s : Shared) av, Off av s.heap → G.P av s.heap → V₁.P av s.heap a → V₂.P av s.heap b → Op prog w A (binaryOp op a b) s (V.P av)) :
    Ev prog w A env G (.BinOp l op r pos) V := fun s av ho hg E Q hq =>
  wpAny_BinOp (h₁ s av ho hg E _ fun a s₁ ha k₁ => h₂ s₁ av (ho.up k₁.kp) (G.up hg k₁.kp) E _ fun b s₂ hb k₂ =>
    hop a b s₂ av (ho.up (k₁.trans k₂).kp) (G.up hg (k₁.trans k₂).kp) (V₁.up ha k₂.sqk) hb E Q fun y s₃ hy k₃ => hq y s₃ hy ((k₁.trans k₂).trans k₃))

theorem ev_Compare {l op r pos} {V₁ V₂ V : VP} (h₁ : Ev prog w A env G l V₁) (h₂ : Ev prog w A env G r V₂)
    (hop : ∀ a b (s : Shared) av, Off av s.heap → G.P av s.heap → V₁.P av s.heap a → V₂.P av s.heap b → Op prog w A (compareOp op a b) s (V.P av))
    (hm : behindInMarks op r = false := by kernel_rfl!) :
    Ev prog w A env G (.Compare l [op] [r] pos) V := fun s av ho hg E Q hq =>
  wpAny_Compare1 (h₁ s av ho hg E _ fun a s₁ ha k₁ => h₂ s₁ av (ho.up k₁.kp) (G.up hg k₁.kp) E _ fun b s₂ hb k₂ =>
    hop a b s₂ av (ho.up (k₁.trans k₂).kp) (G.up hg (k₁.trans k₂).kp) (V₁.up ha k₂.sqk) hb E Q fun y s₃ hy k₃ => hq y s₃ hy ((k₁.trans k₂).trans k₃)) hm

theorem tst_Compare {l op r pos} {V₁ V₂ : VP} {c : Bool} (h₁ : Ev prog w A env G l V₁) (h₂ : Ev prog w A env G r V₂)
    (hop : ∀ a b (s : Shared) av, Off av s.heap → G.P av s.heap → V₁.P av s.heap a → V₂.P av s.heap b → Op prog w A (compareOp op a b) s ((VBool c).P av))
    (hm : behindInMarks op r = false := by kernel_rfl!) :
    Tst prog w A env G (.Compare l [op] [r] pos) c := fun s av ho hg E Q hq =>
  wpAny_isTrue_Compare1 (h₁ s av ho hg E _ fun a s₁ ha k₁ => h₂ s₁ av (ho.up k₁.kp) (G.up hg k₁.kp) E _ fun b s₂ hb k₂ =>
    hop a b s₂ av (ho.up (k₁.trans k₂).kp) (G.up hg (k₁.trans k₂).kp) (V₁.up ha k₂.sqk) hb E _ fun y s₃ hy k₃ => by
      obtain rfl : y = .bool c := hy
      exact wpAny_truthy_bool (hq _ _ rfl ((k₁.trans k₂).trans k₃))) hm
end
end Mine

end
section
namespace Mine

/-- a name's kind and, of a cell, its address -/
def VarAt (env : Env) (m : Str → Option Value) (h : Heap) (x : Str) (v : Value) : Prop :=
  (env.kindOf x = some .local ∧ m x = some v) ∨ ((env.kindOf x = some .cell ∨ (env.kindOf x = some .free ∧ (x == ("__classdict__" : Str)) = false)) ∧ ∃ c, env.cells.lookup x = some c ∧ h.IsCell c (some v))

abbrev Locs := List (Str × VP)

structure FrI (env : Env) (h₀ : Heap) (ρ : Locs) (av : Addr → Prop) (h : Heap) (m : Str → Option Value) : Prop where
  fr : Fr h₀ env.locals h m
  vars : ∀ x V, ρ.lookup x = some V → ∃ v, V.P av h v ∧ VarAt env m h x v
  cells : ∀ n c, env.cells.lookup n = some c → ∃ v, h.IsCell c v

/-- the frame: its names and what they hold -/
def FrameIs (env : Env) (h₀ : Heap) (ρ : Locs) (av : Addr → Prop) (h : Heap) : Prop := ∃ m, FrI env h₀ ρ av h m

theorem FrameIs.up {env : Env} {h₀ : Heap} {ρ : Locs} {av : Addr → Prop} {h h' : Heap} (x : FrameIs env h₀ ρ av h) (k : Kp h h') : FrameIs env h₀ ρ av h' := by
  obtain ⟨m, F, V, C⟩ := x
  refine ⟨m, ⟨F.ns.keeps k, fun b o e => k b o (F.keep b o e), F.above⟩, fun y W hy => ?_, fun n c hc => ?_⟩
  · obtain ⟨v, hv, hx⟩ := V y W hy
    refine ⟨v, W.up hv (Kp.sqk k), ?_⟩
    rcases hx with h1 | ⟨h1, c, hc, hv⟩
    · exact .inl h1
    · exact .inr ⟨h1, c, hc, hv.keeps k⟩
  · obtain ⟨v, hv⟩ := C n c hc
    exact ⟨v, hv.keeps k⟩
theorem FrameIs.grow {env : Env} {h₀ : Heap} {ρ : Locs} {av av' : Addr → Prop} {h : Heap} (x : FrameIs env h₀ ρ av h) (k : ∀ b, av' b → av b ∨ h.get? b = none) : FrameIs env h₀ ρ av' h := by
  obtain ⟨m, F, V, C⟩ := x
  exact ⟨m, F, fun y W hy => let ⟨v, hv, hx⟩ := V y W hy; ⟨v, W.grow hv k, hx⟩, C⟩
theorem FrameIs.sub {env : Env} {h₀ : Heap} {ρ ρ' : Locs} {av : Addr → Prop} {h : Heap} (x : FrameIs env h₀ ρ av h) (k : ∀ p ∈ ρ', ρ.lookup p.1 = some p.2) : FrameIs env h₀ ρ' av h := by
  obtain ⟨m, F, V, C⟩ := x
  refine ⟨m, F, fun y W hy => V y W ?_, C⟩
  exact k (y, W) (mem_of_lookup hy)

/-- facts about the changing lists alone -/
def OnMd (md : Addr → Prop) (X : Heap → Prop) : Prop := ∀ h h', X h → (∀ b o, md b → h.get? b = some o → h'.get? b = some o) → X h'
theorem OnMd.kp {md : Addr → Prop} {X : Heap → Prop} (h : OnMd md X) : ∀ h h', X h → Kp h h' → X h' := fun a b x k => h a b x fun c o _ e => k c o e
abbrev noMd : Addr → Prop := fun _ => False
abbrev noX : Heap → Prop := fun _ => True
theorem onNo {md : Addr → Prop} : OnMd md noX := fun _ _ _ _ => trivial

/-- the frame, and a fact of the lists that may change -/
def frHP (env : Env) (h₀ : Heap) (ρ : Locs) (md : Addr → Prop) (X : Heap → Prop) (hX : OnMd md X) : HP :=
  ⟨fun av h => FrameIs env h₀ ρ av h ∧ X h ∧ ∀ b, md b → av b, fun p k => ⟨p.1.up k, hX.kp _ _ p.2.1 k, p.2.2⟩⟩
abbrev frP (env : Env) (h₀ : Heap) (ρ : Locs) : HP := frHP env h₀ ρ noMd noX onNo

/-- what does not change within a call of the law's text -/
structure Cx (A : Around) (env : Env) (h₀ : Heap) (defs : List DefItem) (names : List Str) : Prop where
  kind : env.scope.kind = .function
  globals : env.globals = mainGlobals
  builtins : env.builtins = builtinsNs
  handled : A.handled = none
  glob : ∃ N mg mb consts objs, Glob N mg mb defs consts objs names h₀

section
variable {prog : Program} {w : World} {A : Around} {env : Env} {h₀ : Heap} {ρ : Locs} {md : Addr → Prop} {X : Heap → Prop} {hX : OnMd md X} {defs : List DefItem} {names : List Str}

theorem loadVar {x : Str} {V : VP} (hk : env.scope.kind = .function) (hρ : ρ.lookup x = some V) : Tr prog w A (frHP env h₀ ρ md X hX) (loadName env x) V.P := by
  rintro s av ho ⟨⟨m, F, Vs, C⟩, hx⟩ E Q hq
  obtain ⟨v, hv, h1⟩ := Vs x V hρ
  rcases h1 with ⟨hl, hm⟩ | ⟨hl, c, hc, hcv⟩
  · exact wpAny_loadName_local hk hl F.ns hm (hq _ _ hv (Kps.refl _))
  · rcases hl with hl | ⟨hl, hn⟩
    · exact wpAny_loadName_cell hk hl hc hcv (hq _ _ hv (Kps.refl _))
    · exact wpAny_loadName_free hk hl hc hcv (hq _ _ hv (Kps.refl _)) hn

theorem ev_name {x : Str} {pos : Pos} {V : VP} (hk : env.scope.kind = .function) (hρ : ρ.lookup x = some V) (hd : (x == ("__debug__" : Str)) = false := by decide) :
    Ev prog w A env (frHP env h₀ ρ md X hX) (.Name x pos) V := fun s av ho hg E Q hq => wpAny_Name (loadVar hk hρ s av ho hg E Q hq) hd

theorem ev_builtin {x : Str} {pos : Pos} {v : Value} (C : Cx A env h₀ defs names) (hv : bootBuiltins x = some v)
    (hfree : x ∉ names) (hx : env.kindOf x = some .globalImplicit) (hboot : x ∉ bootMainNames := by decide) (hn : x ≠ "__name__" := by decide) (hd : (x == ("__debug__" : Str)) = false := by decide) :
    Ev prog w A env (frHP env h₀ ρ md X hX) (.Name x pos) (VEq v) := by
  rintro s av ho ⟨⟨m, F, Vs, _⟩, _⟩ E Q hq
  obtain ⟨N, mg, mb, consts, objs, G⟩ := C.glob
  have G' := G.keeps F.keep
  exact Name_function_global C.kind hx (loadGlobal_builtin (C.globals ▸ G'.g) (G'.free x hfree hboot) (C.builtins ▸ G'.b) ((G'.builtins x hn).trans hv) (hq _ _ rfl (Kps.refl _))) hd
end
end Mine

end
section
namespace Mine

section
variable {prog : Program} {w : World} {A : Around} {env : Env} {G : HP}

abbrev ArgsEv (prog : Program) (w : World) (A : Around) (env : Env) (G : HP) (pos : Pos) (es : List Expr) (Vs : List VP) : Prop :=
  Tr prog w A G (spliced (backTo pos (starEach es env))) (fun av h vs => Items av h vs Vs)
theorem ae_nil {pos : Pos} : ArgsEv prog w A env G pos [] [] := fun s av ho hg E Q hq => args_nil (hq _ _ .nil (Kps.refl _))
theorem ae_cons {pos : Pos} {e : Expr} {rest : List Expr} {V : VP} {Vs : List VP} (h : Ev prog w A env G e V) (hr : ArgsEv prog w A env G pos rest Vs)
    (he : starEach (e :: rest) env = (false, eval e env) :: starEach rest env := by kernel_rfl!) : ArgsEv prog w A env G pos (e :: rest) (V :: Vs) :=
  fun s av ho hg E Q hq => args_cons (h s av ho hg E _ fun v s₁ hv k₁ => hr s₁ av (ho.up k₁.kp) (G.up hg k₁.kp) E _ fun vs s₂ hvs k₂ => hq _ _ (.cons (V.up hv k₂.sqk) hvs) (k₁.trans k₂)) he

/-- a built-in function by its name -/
theorem ev_callB {x : Str} {np pos : Pos} {id : String} {e : Expr} {rest : List Expr} {Vs : List VP} {V : VP} (hf : Ev prog w A env G (.Name x np) (VEq (.builtin id))) (ha : ArgsEv prog w A env G pos (e :: rest) Vs)
    (hop : ∀ vs (s : Shared) av, Off av s.heap → G.P av s.heap → Items av s.heap vs Vs → Op prog w A (call (.builtin id) vs) s (V.P av))
    (he : starEach (e :: rest) env = (false, eval e env) :: starEach rest env := by kernel_rfl!) (hplain : (backTo pos (starEach rest env)).any (·.1) = false := by kernel_rfl!) :
    Ev prog w A env G (.Call (.Name x np) (e :: rest) [] pos) V := fun s av ho hg E Q hq =>
  Call_ (hf s av ho hg E _ fun f s₁ hf' k₁ => by
    obtain rfl : f = .builtin id := hf'
    exact callWith_builtin1 (ha s₁ av (ho.up k₁.kp) (G.up hg k₁.kp) E _ fun vs s₂ hvs k₂ => hop vs s₂ av (ho.up (k₁.trans k₂).kp) (G.up hg (k₁.trans k₂).kp) hvs E Q fun y s₃ hy k₃ => hq _ _ hy ((k₁.trans k₂).trans k₃)) he hplain)

/-- a type by its name -/
theorem ev_callT {x : Str} {np pos : Pos} {T : String} {e : Expr} {rest : List Expr} {Vs : List VP} {V : VP} (hf : Ev prog w A env G (.Name x np) (VEq (.type T))) (ha : ArgsEv prog w A env G pos (e :: rest) Vs)
    (hop : ∀ vs (s : Shared) av, Off av s.heap → G.P av s.heap → Items av s.heap vs Vs → Op prog w A (call (.type T) vs) s (V.P av))
    (he : starEach (e :: rest) env = (false, eval e env) :: starEach rest env := by kernel_rfl!) (hplain : (backTo pos (starEach rest env)).any (·.1) = false := by kernel_rfl!) :
    Ev prog w A env G (.Call (.Name x np) (e :: rest) [] pos) V := fun s av ho hg E Q hq =>
  Call_ (hf s av ho hg E _ fun f s₁ hf' k₁ => by
    obtain rfl : f = .type T := hf'
    exact PyProof.Rows.callWith_type1 (ha s₁ av (ho.up k₁.kp) (G.up hg k₁.kp) E _ fun vs s₂ hvs k₂ => hop vs s₂ av (ho.up (k₁.trans k₂).kp) (G.up hg (k₁.trans k₂).kp) hvs E Q fun y s₃ hy k₃ => hq _ _ hy ((k₁.trans k₂).trans k₃)) he hplain)

/-- a list display -/
theorem ev_list {elts : List Expr} {pos : Pos} {Vs : List VP} (ha : ArgsEv prog w A env G pos elts Vs) (hsz : Vs.length ≤ sizeLine := by size_fits) : Ev prog w A env G (.List elts pos) (VList Vs) :=
  fun s av ho hg E Q hq => List_ (ha s av ho hg E _ fun vs s₁ hvs k₁ => wpAny_newObj_type (hq _ _ ⟨s₁.heap.objs.size, vs, rfl, (ho.up k₁.kp).new, ⟨_, Heap.get?_push_size _ rfl, rfl, 0, rfl⟩, hvs.up (Kps.push _ s₁.toks).sqk⟩ (k₁.trans (Kps.push _ _)))
    (by show vs.toArray.size ≤ sizeLine; rw [List.size_toArray, hvs.length]; exact hsz))
theorem ev_tuple {elts : List Expr} {k : Nat} {pos : Pos} {Vs : List VP} (ha : ArgsEv prog w A env G pos elts Vs) (hsz : Vs.length ≤ sizeLine := by size_fits) : Ev prog w A env G (.Tuple elts k pos) (VTup Vs) :=
  fun s av ho hg E Q hq => Tuple_ (ha s av ho hg E _ fun vs s₁ hvs k₁ => wpAny_newObj_type (hq _ _ ⟨s₁.heap.objs.size, vs, rfl, (ho.up k₁.kp).new, ⟨_, Heap.get?_push_size _ rfl, rfl, 0, rfl⟩, hvs.up (Kps.push _ s₁.toks).sqk⟩ (k₁.trans (Kps.push _ _)))
    (by show vs.toArray.size ≤ sizeLine; rw [List.size_toArray, hvs.length]; exact hsz))

/-- x[i] -/
theorem ev_sub {value slice : Expr} {pos : Pos} {V₁ V₂ V : VP} (h₁ : Ev prog w A env G value V₁) (h₂ : Ev prog w A env G slice V₂)
    (hop : ∀ a b (s : Shared) av, Off av s.heap → G.P av s.heap → V₁.P av s.heap a → V₂.P av s.heap b → Op prog w A (subscriptTail value slice a b) s (V.P av)) :
    Ev prog w A env G (.Subscript value slice pos) V := fun s av ho hg E Q hq =>
  Subscript_ (h₁ s av ho hg E _ fun a s₁ ha k₁ => h₂ s₁ av (ho.up k₁.kp) (G.up hg k₁.kp) E _ fun b s₂ hb k₂ =>
    hop a b s₂ av (ho.up (k₁.trans k₂).kp) (G.up hg (k₁.trans k₂).kp) (V₁.up ha k₂.sqk) hb E Q fun y s₃ hy k₃ => hq y s₃ hy ((k₁.trans k₂).trans k₃))

/-- if, as an expression -/
theorem ev_ifexp {t a b : Expr} {pos : Pos} {c : Bool} {V : VP} (ht : Tst prog w A env G t c) (ha : c = true → Ev prog w A env G a V) (hb : c = false → Ev prog w A env G b V) : Ev prog w A env G (.IfExp t a b pos) V :=
  fun s av ho hg E Q hq => by
    refine wpAny_IfExp (ht s av ho hg E _ fun r s₁ hr k₁ => ?_)
    subst hr
    cases r with
    | true => exact ha rfl s₁ av (ho.up k₁.kp) (G.up hg k₁.kp) E Q fun y s₂ hy k₂ => hq _ _ hy (k₁.trans k₂)
    | false => exact hb rfl s₁ av (ho.up k₁.kp) (G.up hg k₁.kp) E Q fun y s₂ hy k₂ => hq _ _ hy (k₁.trans k₂)
end

section
variable {prog : Program} {w : World} {A : Around} {s : Shared} {av : Addr → Prop}
-- ints
theorem op_addI {a b : Int} {x y : Value} (hx : (VInt a).P av s.heap x) (hy : (VInt b).P av s.heap y) : Op prog w A (binaryOp .Add x y) s ((VInt (a + b)).P av) := by
  obtain ⟨t, rfl⟩ := hx; obtain ⟨u, rfl⟩ := hy
  exact fun E Q hq => PyProof.Rows.add_int (hq _ _ ⟨_, rfl⟩ (Kps.tok _))
theorem op_subI {a b : Int} {x y : Value} (hx : (VInt a).P av s.heap x) (hy : (VInt b).P av s.heap y) : Op prog w A (binaryOp .Sub x y) s ((VInt (a - b)).P av) := by
  obtain ⟨t, rfl⟩ := hx; obtain ⟨u, rfl⟩ := hy
  exact fun E Q hq => PyProof.Rows.sub_int (hq _ _ ⟨_, rfl⟩ (Kps.tok _))
theorem op_modI {a b : Int} {x y : Value} (hb : b ≠ 0) (hx : (VInt a).P av s.heap x) (hy : (VInt b).P av s.heap y) : Op prog w A (binaryOp .Mod x y) s ((VInt (a.fmod b)).P av) := by
  obtain ⟨t, rfl⟩ := hx; obtain ⟨u, rfl⟩ := hy
  exact fun E Q hq => PyProof.Rows.mod_int hb (hq _ _ ⟨_, rfl⟩ (Kps.tok _))
theorem op_divI {a b : Int} {x y : Value} (hb : b ≠ 0) (hp : Builtin.divisionGoesByPylong a b = false) (hx : (VInt a).P av s.heap x) (hy : (VInt b).P av s.heap y) : Op prog w A (binaryOp .FloorDiv x y) s ((VInt (a.fdiv b)).P av) := by
  obtain ⟨t, rfl⟩ := hx; obtain ⟨u, rfl⟩ := hy
  exact fun E Q hq => floordiv_int hb (hq _ _ ⟨_, rfl⟩ (Kps.tok _)) (.inl hp)
theorem op_mulI {a b : Int} {x y : Value} (hm : IntMulOk a b) (hx : (VInt a).P av s.heap x) (hy : (VInt b).P av s.heap y) : Op prog w A (binaryOp .Mult x y) s ((VInt (a * b)).P av) := by
  obtain ⟨t, rfl⟩ := hx; obtain ⟨u, rfl⟩ := hy
  exact fun E Q hq => mul_int (hm := hm) (hq _ _ ⟨_, rfl⟩ (Kps.tok _))
theorem op_eqI {a b : Int} {x y : Value} (hx : (VInt a).P av s.heap x) (hy : (VInt b).P av s.heap y) : Op prog w A (compareOp .Eq x y) s ((VBool (a == b)).P av) := by
  obtain ⟨t, rfl⟩ := hx; obtain ⟨u, rfl⟩ := hy
  exact fun E Q hq => PyProof.Rows.eq_int (hq _ _ rfl (Kps.refl _))
theorem op_neI {a b : Int} {x y : Value} (hx : (VInt a).P av s.heap x) (hy : (VInt b).P av s.heap y) : Op prog w A (compareOp .NotEq x y) s ((VBool (a != b)).P av) := by
  obtain ⟨t, rfl⟩ := hx; obtain ⟨u, rfl⟩ := hy
  exact fun E Q hq => PyProof.Rows.ne_int (hq _ _ rfl (Kps.refl _))
theorem op_gtI {a b : Int} {x y : Value} (hx : (VInt a).P av s.heap x) (hy : (VInt b).P av s.heap y) : Op prog w A (compareOp .Gt x y) s ((VBool (decide (b < a))).P av) := by
  obtain ⟨t, rfl⟩ := hx; obtain ⟨u, rfl⟩ := hy
  exact fun E Q hq => PyProof.Rows.gt_int (hq _ _ rfl (Kps.refl _))
theorem op_geI {a b : Int} {x y : Value} (hx : (VInt a).P av s.heap x) (hy : (VInt b).P av s.heap y) : Op prog w A (compareOp .GtE x y) s ((VBool (decide (b ≤ a))).P av) := by
  obtain ⟨t, rfl⟩ := hx; obtain ⟨u, rfl⟩ := hy
  exact fun E Q hq => PyProof.Rows.ge_int (hq _ _ rfl (Kps.refl _))
-- texts
theorem op_addS {a b : Str} {x y : Value} (hsz : a.length + b.length ≤ sizeLine) (hx : (VStr a).P av s.heap x) (hy : (VStr b).P av s.heap y) : Op prog w A (binaryOp .Add x y) s ((VStr (a ++ b)).P av) := by
  obtain ⟨t, rfl⟩ := hx; obtain ⟨u, rfl⟩ := hy
  exact fun E Q hq => SB.add (hsz := hsz) fun t' k => hq _ _ ⟨_, rfl⟩ (Kps.tok _)
theorem op_iaddS {a b : Str} {x y : Value} (hsz : a.length + b.length ≤ sizeLine) (hx : (VStr a).P av s.heap x) (hy : (VStr b).P av s.heap y) : Op prog w A (inplaceOp .Add x y) s ((VStr (a ++ b)).P av) := by
  obtain ⟨t, rfl⟩ := hx; obtain ⟨u, rfl⟩ := hy
  exact fun E Q hq => SB.iadd (hsz := hsz) fun t' k => hq _ _ ⟨_, rfl⟩ (Kps.tok _)
theorem op_eqS {a b : Str} {x y : Value} (hx : (VStr a).P av s.heap x) (hy : (VStr b).P av s.heap y) : Op prog w A (compareOp .Eq x y) s ((VBool (a.cps.toList == b.cps.toList)).P av) := by
  obtain ⟨t, rfl⟩ := hx; obtain ⟨u, rfl⟩ := hy
  exact fun E Q hq => P.eq_str (hq _ _ rfl (Kps.refl _))
theorem op_neS {a b : Str} {x y : Value} (hx : (VStr a).P av s.heap x) (hy : (VStr b).P av s.heap y) : Op prog w A (compareOp .NotEq x y) s ((VBool (a.cps.toList != b.cps.toList)).P av) := by
  obtain ⟨t, rfl⟩ := hx; obtain ⟨u, rfl⟩ := hy
  exact fun E Q hq => P.ne_str (hq _ _ rfl (Kps.refl _))
theorem op_ltS {a b : Str} {x y : Value} (hx : (VStr a).P av s.heap x) (hy : (VStr b).P av s.heap y) : Op prog w A (compareOp .Lt x y) s ((VBool (a.cps.toList < b.cps.toList)).P av) := by
  obtain ⟨t, rfl⟩ := hx; obtain ⟨u, rfl⟩ := hy
  exact fun E Q hq => P.lt_str (hq _ _ rfl (Kps.refl _))
theorem op_lenS {a : Str} {vs : List Value} (hfit : ¬ (a.length : Int) ≥ 2 ^ 63) (hx : Items av s.heap vs [VStr a]) : Op prog w A (call (.builtin "len") vs) s ((VInt a.length).P av) := by
  cases hx with | cons hx r => cases r with | nil =>
  obtain ⟨t, rfl⟩ := hx
  exact fun E Q hq => P.len_str hfit (hq _ _ ⟨_, rfl⟩ (Kps.tok _))
theorem op_lenL {Vs : List VP} {vs : List Value} (hfit : (Vs.length : Int) < 2 ^ 63) (hx : Items av s.heap vs [VList Vs]) : Op prog w A (call (.builtin "len") vs) s ((VInt Vs.length).P av) := by
  cases hx with | cons hx r => cases r with | nil =>
  obtain ⟨a, us, rfl, _, hl, hi⟩ := hx
  have e : us.toArray.size = Vs.length := by rw [List.size_toArray]; exact hi.length
  exact fun E Q hq => call_len_list hl (by rw [e]; exact hfit) (hq _ _ ⟨_, by rw [e]⟩ (Kps.tok _))
end
end Mine

end
section
namespace Mine

/-- the lists that may change: none is the frame's own object, a cell or an elder one -/
structure MdOk (env : Env) (h₀ : Heap) (md : Addr → Prop) : Prop where
  loc : ∀ b, md b → b ≠ env.locals
  cell : ∀ b n, md b → env.cells.lookup n ≠ some b
  new : ∀ b, md b → h₀.get? b = none
theorem mdOk_none {env : Env} {h₀ : Heap} : MdOk env h₀ (fun _ => False) := ⟨fun _ h => h.elim, fun _ _ h => h.elim, fun _ h => h.elim⟩
/-- the frame's cells are its own -/
structure CelOk (env : Env) (h₀ : Heap) : Prop where
  apart : ∀ n n' c, env.cells.lookup n = some c → env.cells.lookup n' = some c → n = n'
  new : ∀ n c, env.cells.lookup n = some c → h₀.get? c = none
  loc : ∀ n c, env.cells.lookup n = some c → c ≠ env.locals

/-- what statements may turn: the frame's names and cells, and the lists md -/
def Mv (env : Env) (md : Addr → Prop) (s s' : Shared) : Prop :=
  ∃ h' tk, s' = { s with heap := h', toks := tk } ∧ ∀ b o, b ≠ env.locals → (∀ n, env.cells.lookup n ≠ some b) → ¬ md b → s.heap.get? b = some o → h'.get? b = some o
theorem Mv.refl {env : Env} {md : Addr → Prop} (s : Shared) : Mv env md s s := ⟨s.heap, s.toks, rfl, fun _ _ _ _ _ e => e⟩
theorem Mv.trans {env : Env} {md : Addr → Prop} {s s' s'' : Shared} (h : Mv env md s s') (h' : Mv env md s' s'') : Mv env md s s'' := by
  obtain ⟨h1, t1, rfl, k1⟩ := h
  obtain ⟨h2, t2, rfl, k2⟩ := h'
  exact ⟨h2, t2, rfl, fun b o a1 a2 a3 e => k2 b o a1 a2 a3 (k1 b o a1 a2 a3 e)⟩
theorem Kps.mv {env : Env} {md : Addr → Prop} {s s' : Shared} (h : Kps s s') : Mv env md s s' := by
  obtain ⟨h1, t1, rfl, k1⟩ := h
  exact ⟨h1, t1, rfl, fun b o _ _ _ e => k1 b o e⟩

section
variable {prog : Program} {w : World} {A : Around} {env : Env} {h₀ : Heap} {md : Addr → Prop} {av : Addr → Prop} {s : Shared} {ρ : Locs}

/-- a name is bound anew -/
theorem store {x : Str} {V : VP} {v : Value} {E : Value → Shared → Prop} {Q : Unit → Shared → Prop} {X : Heap → Prop} (hk : env.scope.kind = .function) (C : CelOk env h₀) (M : MdOk env h₀ md) (hX : OnMd md X)
    (hx : env.kindOf x = some .local ∨ (env.kindOf x = some .cell ∧ ∃ c, env.cells.lookup x = some c))
    (ho : Off av s.heap) (hF : FrameIs env h₀ ρ av s.heap) (hXs : X s.heap) (hv : V.P av s.heap v)
    (hq : ∀ s', FrameIs env h₀ ((x, V) :: ρ) av s'.heap → X s'.heap → Off av s'.heap → Mv env md s s' → Q () s') : wpAny (model prog w) A (storeName env x v) Q E s := by
  obtain ⟨m, F, Vs, Cs⟩ := hF
  obtain ⟨oL, esL, epL, hoL, hdL, _⟩ := id F.ns
  rcases hx with hl | ⟨hl, c, hc⟩
  · refine wpAny_storeName_local hl F.ns (fun h' hn hs => ?_) (by rw [hk]; rfl)
    have sq : SqK av s.heap h' := fun b o _ ⟨xs, n, hd⟩ e => hs.extBut b o (by rintro rfl; rw [hoL] at e; cases e; rw [hdL] at hd; cases hd) e
    have hcl : ∀ c v, s.heap.IsCell c v → h'.IsCell c v := fun c v ⟨o, e, hd⟩ => ⟨o, hs.extBut c o (by rintro rfl; rw [hoL] at e; cases e; rw [hdL] at hd; cases hd) e, hd⟩
    refine hq { s with heap := h', toks := s.toks + 1 } ⟨_, F.set hn hs, fun y W hy => ?_, fun n c hc => ?_⟩ (hX _ _ hXs fun b o hb e => hs.extBut b o (M.loc b hb) e) (fun b hb => ?_) ⟨h', s.toks + 1, rfl, fun b o hb _ _ e => hs.extBut b o hb e⟩
    · by_cases hyx : y = x
      · subst hyx
        rw [List.lookup_cons_self] at hy
        obtain rfl := Option.some.inj hy
        exact ⟨v, V.up hv sq, .inl ⟨hl, by simp⟩⟩
      · rw [List.lookup_cons, show (y == x) = false by simpa using hyx] at hy
        obtain ⟨u, hu, h1⟩ := Vs y W hy
        refine ⟨u, W.up hu sq, ?_⟩
        rcases h1 with ⟨a1, a2⟩ | ⟨a1, c, a2, a3⟩
        · exact .inl ⟨a1, by simp [hyx, a2]⟩
        · exact .inr ⟨a1, c, a2, hcl _ _ a3⟩
    · obtain ⟨u, hu⟩ := Cs n c hc
      exact ⟨u, hcl _ _ hu⟩
    · obtain ⟨o, e⟩ := ho b hb
      by_cases hbL : b = env.locals
      · subst hbL; obtain ⟨o', _, _, e', _⟩ := hn; exact ⟨o', e'⟩
      · exact ⟨o, hs.extBut b o hbL e⟩
  · obtain ⟨v₀, hcv⟩ := Cs x c hc
    obtain ⟨oc, hoc, hdc⟩ := id hcv
    refine wpAny_storeName_cell hk hl hc hcv fun h' hn hs => ?_
    have sq : SqK av s.heap h' := fun b o _ ⟨xs, n, hd⟩ e => hs.extBut b o (by rintro rfl; rw [hoc] at e; cases e; rw [hdc] at hd; cases hd) e
    have hne : c ≠ env.locals := C.loc x c hc
    refine hq { s with heap := h' } ⟨m, ⟨F.ns.sameBut hs (Ne.symm hne), fun b o e => hs.extBut b o (by rintro rfl; rw [C.new x b hc] at e; cases e) (F.keep b o e), F.above⟩, fun y W hy => ?_, fun n c' hc' => ?_⟩
      (hX _ _ hXs fun b o hb e => hs.extBut b o (by rintro rfl; exact M.cell b x hb hc) e) (fun b hb => ?_) ⟨h', s.toks, rfl, fun b o _ hb _ e => hs.extBut b o (by rintro rfl; exact hb x hc) e⟩
    · by_cases hyx : y = x
      · subst hyx
        rw [List.lookup_cons_self] at hy
        obtain rfl := Option.some.inj hy
        exact ⟨v, V.up hv sq, .inr ⟨.inl hl, c, hc, hn⟩⟩
      · rw [List.lookup_cons, show (y == x) = false by simpa using hyx] at hy
        obtain ⟨u, hu, h1⟩ := Vs y W hy
        refine ⟨u, W.up hu sq, ?_⟩
        rcases h1 with h1 | ⟨a1, c', a2, a3⟩
        · exact .inl h1
        · exact .inr ⟨a1, c', a2, a3.sameBut hs (by rintro rfl; exact hyx (C.apart _ _ _ a2 hc))⟩
    · by_cases hcc : c' = c
      · subst hcc; exact ⟨_, hn⟩
      · obtain ⟨u, hu⟩ := Cs n c' hc'; exact ⟨u, hu.sameBut hs hcc⟩
    · obtain ⟨o, e⟩ := ho b hb
      by_cases hbc : b = c
      · subst hbc; obtain ⟨o', e', _⟩ := hn; exact ⟨o', e'⟩
      · exact ⟨o, hs.extBut b o hbc e⟩
end

/-- the statements take ρ, X to ρ', X' and go on -/
def HT (prog : Program) (w : World) (A : Around) (env : Env) (h₀ : Heap) (md : Addr → Prop) (ρ : Locs) (X : Heap → Prop) (t : Sem Flow) (ρ' : Locs) (X' : Heap → Prop) : Prop :=
  ∀ (s : Shared) (av : Addr → Prop), (∀ b, md b → av b) → Off av s.heap → FrameIs env h₀ ρ av s.heap → X s.heap → ∀ (E : Value → Shared → Prop) (Q : Flow → Shared → Prop),
    (∀ s', FrameIs env h₀ ρ' av s'.heap → X' s'.heap → Off av s'.heap → Mv env md s s' → Q .next s') → wpAny (model prog w) A t Q E s

/-- what does not change in a frame that stores -/
structure Fx (env : Env) (h₀ : Heap) (md : Addr → Prop) : Prop where
  kind : env.scope.kind = .function
  cel : CelOk env h₀
  mdo : MdOk env h₀ md

section
variable {prog : Program} {w : World} {A : Around} {env : Env} {h₀ : Heap} {md : Addr → Prop} {ρ ρ₁ ρ₂ : Locs} {X X₁ X₂ : Heap → Prop}

theorem ht_nil : HT prog w A env h₀ md ρ X (execs [] env) ρ X := fun s av _ ho hF hX E Q hq => wpAny_execs_nil (hq s hF hX ho (Mv.refl s))
theorem ht_cons {st : Stmt} {rest : List Stmt} (h₁ : HT prog w A env h₀ md ρ X (exec st env) ρ₁ X₁) (h₂ : HT prog w A env h₀ md ρ₁ X₁ (execs rest env) ρ₂ X₂) : HT prog w A env h₀ md ρ X (execs (st :: rest) env) ρ₂ X₂ :=
  fun s av hm ho hF hX E Q hq => wpAny_execs_cons (h₁ s av hm ho hF hX E _ fun s' hF' hX' ho' k => h₂ s' av hm ho' hF' hX' E Q fun s'' hF'' hX'' ho'' k' => hq s'' hF'' hX'' ho'' (k.trans k'))
theorem ht_sub {t : Sem Flow} (h : HT prog w A env h₀ md ρ X t ρ₁ X₁) (hs : ∀ p ∈ ρ₂, ρ₁.lookup p.1 = some p.2) : HT prog w A env h₀ md ρ X t ρ₂ X₁ :=
  fun s av hm ho hF hX E Q hq => h s av hm ho hF hX E Q fun s' hF' hX' ho' k => hq s' (hF'.sub hs) hX' ho' k
theorem ht_pre {t : Sem Flow} (h : HT prog w A env h₀ md ρ₂ X t ρ₁ X₁) (hs : ∀ p ∈ ρ₂, ρ.lookup p.1 = some p.2) : HT prog w A env h₀ md ρ X t ρ₁ X₁ :=
  fun s av hm ho hF hX E Q hq => h s av hm ho (hF.sub hs) hX E Q hq

theorem ht_assign {x : Str} {px pos : Pos} {e : Expr} {V : VP} (f : Fx env h₀ md) (hX : OnMd md X) (he : Ev prog w A env (frHP env h₀ ρ md X hX) e V)
    (hx : env.kindOf x = some .local ∨ (env.kindOf x = some .cell ∧ ∃ c, env.cells.lookup x = some c))
    (hs : swapsWith e (some (.Name x px)) pos.line env = pure false := by kernel_rfl!) : HT prog w A env h₀ md ρ X (exec (.Assign [.Name x px] e pos) env) ((x, V) :: ρ) X :=
  fun s av hm ho hF hXs E Q hq => wpAny_Assign_Name (he s av ho ⟨hF, hXs, hm⟩ E _ fun v s₁ hv k₁ =>
    store f.kind f.cel f.mdo hX hx (ho.up k₁.kp) (hF.up k₁.kp) (hX.kp _ _ hXs k₁.kp) hv fun s₂ hF₂ hX₂ ho₂ k₂ => hq s₂ hF₂ hX₂ ho₂ (k₁.mv.trans k₂)) hs

theorem ht_aug {x : Str} {px pos : Pos} {op : Operator} {e : Expr} {V₀ V₁ V : VP} (f : Fx env h₀ md) (hX : OnMd md X) (h0 : ρ.lookup x = some V₀) (he : Ev prog w A env (frHP env h₀ ρ md X hX) e V₁)
    (hx : env.kindOf x = some .local ∨ (env.kindOf x = some .cell ∧ ∃ c, env.cells.lookup x = some c))
    (hop : ∀ a b (s : Shared) av, Off av s.heap → V₀.P av s.heap a → V₁.P av s.heap b → Op prog w A (inplaceOp op a b) s (V.P av)) :
    HT prog w A env h₀ md ρ X (exec (.AugAssign (.Name x px) op e pos) env) ((x, V) :: ρ) X :=
  fun s av hm ho hF hXs E Q hq => wpAny_AugAssign_Name (loadVar (hX := hX) f.kind h0 s av ho ⟨hF, hXs, hm⟩ E _ fun a s₁ ha k₁ => he s₁ av (ho.up k₁.kp) ⟨hF.up k₁.kp, hX.kp _ _ hXs k₁.kp, hm⟩ E _ fun b s₂ hb k₂ =>
    hop a b s₂ av (ho.up (k₁.trans k₂).kp) (V₀.up ha k₂.sqk) hb E _ fun y s₃ hy k₃ => by
      have k := (k₁.trans k₂).trans k₃
      exact store f.kind f.cel f.mdo hX hx (ho.up k.kp) (hF.up k.kp) (hX.kp _ _ hXs k.kp) hy fun s₄ hF₄ hX₄ ho₄ k₄ => hq s₄ hF₄ hX₄ ho₄ (k.mv.trans k₄))

theorem ht_if {t : Expr} {body orelse : List Stmt} {pos : Pos} {c : Bool} (hX : OnMd md X) (ht : Tst prog w A env (frHP env h₀ ρ md X hX) t c)
    (h1 : c = true → HT prog w A env h₀ md ρ X (execs body env) ρ₁ X₁) (h2 : c = false → HT prog w A env h₀ md ρ X (execs orelse env) ρ₁ X₁) :
    HT prog w A env h₀ md ρ X (exec (.If t body orelse pos) env) ρ₁ X₁ :=
  fun s av hm ho hF hXs E Q hq => wpAny_If (ht s av ho ⟨hF, hXs, hm⟩ E _ fun b s₁ hb k₁ => by
    subst hb
    cases b with
    | true => exact h1 rfl s₁ av hm (ho.up k₁.kp) (hF.up k₁.kp) (hX.kp _ _ hXs k₁.kp) E Q fun s₂ hF₂ hX₂ ho₂ k₂ => hq s₂ hF₂ hX₂ ho₂ (k₁.mv.trans k₂)
    | false => exact h2 rfl s₁ av hm (ho.up k₁.kp) (hF.up k₁.kp) (hX.kp _ _ hXs k₁.kp) E Q fun s₂ hF₂ hX₂ ho₂ k₂ => hq s₂ hF₂ hX₂ ho₂ (k₁.mv.trans k₂))
end
end Mine

end
section
namespace Mine

theorem FrameIs.step {env : Env} {h₀ : Heap} {ρ : Locs} {av : Addr → Prop} {h h' : Heap} {I : Addr} (hF : FrameIs env h₀ ρ av h) (hk : ∀ b o, b ≠ I → h.get? b = some o → h'.get? b = some o) (hI : av I) (hL : I ≠ env.locals)
    (hc : ∀ n, env.cells.lookup n ≠ some I) (h0 : h₀.get? I = none) : FrameIs env h₀ ρ av h' := by
  obtain ⟨m, F, V, C⟩ := hF
  refine ⟨m, ⟨F.ns.at' fun o e => hk _ o (Ne.symm hL) e, fun b o e => hk b o (by rintro rfl; rw [h0] at e; cases e) (F.keep b o e), F.above⟩, fun y W hy => ?_, fun n c hc' => ?_⟩
  · obtain ⟨v, hv, h1⟩ := V y W hy
    refine ⟨v, W.up hv (fun b o hb _ e => hk b o (by rintro rfl; exact hb hI) e), ?_⟩
    rcases h1 with h1 | ⟨a1, c, a2, o, a3, a4⟩
    · exact .inl h1
    · exact .inr ⟨a1, c, a2, o, hk c o (by rintro rfl; exact hc y a2) a3, a4⟩
  · obtain ⟨v, o, a3, a4⟩ := C n c hc'
    exact ⟨v, o, hk c o (by rintro rfl; exact hc n hc') a3, a4⟩

/-- iter is evaluated and opened: Vs are what it hands out -/
def EvIt (prog : Program) (w : World) (A : Around) (env : Env) (G : HP) (iter : Expr) (Vs : List VP) : Prop :=
  ∀ (s : Shared) (av : Addr → Prop), Off av s.heap → G.P av s.heap → ∀ (E : Value → Shared → Prop) (Q : Value → Shared → Prop),
    (∀ (I : Addr) (s' : Shared) (fp : List Addr) (P : Nat → Value → Prop) (St : Nat → Heap → Prop), Kps s s' → s.heap.get? I = none → (∀ i h, St i h → ∃ o, h.get? I = some o) → Walks prog w A I fp [I] Vs.length P St → St 0 s'.heap →
      (∀ b ∈ fp, b < s'.heap.objs.size) → (∀ b ∈ fp, b = I ∨ ((∃ o, s'.heap.get? b = some o ∧ ∃ xs n, o.data = .seq xs n) ∧ ¬ av b)) → (∀ i v, i < Vs.length → P i v → ∃ V, Vs[i]? = some V ∧ V.P (fun b => av b ∨ b = I) s'.heap v) → Q (.ref I) s') →
    wpAny (model prog w) A (eval iter env) (fun xv s₁ => wpAny (model prog w) A (pyIter xv) Q E s₁) E s

section
variable {prog : Program} {w : World} {A : Around} {env : Env} {G : HP}

theorem get_of_lt {α : Type} {l : List α} {i : Nat} (h : i < l.length) : ∃ a, l[i]? = some a := ⟨l[i], by simp [h]⟩
theorem grow_new {av : Addr → Prop} {h : Heap} {I : Addr} (hI : h.get? I = none) : ∀ b, (av b ∨ b = I) → av b ∨ h.get? b = none := fun b hb => hb.imp id fun e => by rw [e]; exact hI
theorem new_none (h : Heap) : h.get? h.objs.size = none := by
  cases e : h.get? h.objs.size with
  | none => rfl
  | some o => exact absurd (Heap.lt_size e) (Nat.lt_irrefl _)

theorem it_list {iter : Expr} {Vs : List VP} (hh : A.handled = none) (h : Ev prog w A env G iter (VList Vs)) : EvIt prog w A env G iter Vs := by
  intro s av ho hg E Q hq
  refine h s av ho hg E _ fun xv s₁ hv k₁ => ?_
  obtain ⟨a, vs, rfl, hav, hl, hi⟩ := hv
  refine wpAny_pyIter_list hl ?_
  have hlt : a < s₁.heap.objs.size := by obtain ⟨o, e, _⟩ := id hl; exact Heap.lt_size e
  have hlen : vs.toArray.size = Vs.length := by rw [List.size_toArray]; exact hi.length
  have W := Walks.list (prog := prog) (w := w) hh s₁.heap.objs.size a (Nat.ne_of_lt hlt) vs.toArray
  rw [hlen] at W
  have hn : s.heap.get? s₁.heap.objs.size = none := by
    cases e : s.heap.get? s₁.heap.objs.size with
    | none => rfl
    | some o => exact absurd (Heap.lt_size (k₁.kp _ _ e)) (Nat.lt_irrefl _)
  refine hq s₁.heap.objs.size _ _ _ _ (k₁.trans (Kps.push _ s₁.toks)) hn (fun _ _ st => let ⟨o, e, _⟩ := st.1; ⟨o, e⟩) W ⟨⟨_, Heap.get?_push_size _ rfl, rfl, rfl⟩, hl.push _⟩ ?_ ?_ ?_
  · intro b hb
    rw [Heap.size_push]
    rcases List.mem_cons.mp hb with rfl | hb
    · exact Nat.lt_succ_self _
    · rw [List.mem_singleton.mp hb]; exact Nat.lt_succ_of_lt hlt
  · intro b hb
    rcases List.mem_cons.mp hb with rfl | hb
    · exact .inl rfl
    · rw [List.mem_singleton.mp hb]
      obtain ⟨o, e, hc, n, hd⟩ := id hl
      exact .inr ⟨⟨o, Heap.get?_push_of_some _ e, _, n, hd⟩, hav⟩
  · intro i v _ hP
    obtain ⟨V, hV, hp⟩ := Paired.get' hi (i := i) (a := v) (by simpa using hP)
    exact ⟨V, hV, V.up (V.grow hp (grow_new (new_none _))) (Kps.push _ s₁.toks).sqk⟩

theorem it_tup {iter : Expr} {Vs : List VP} (hh : A.handled = none) (h : Ev prog w A env G iter (VTup Vs)) : EvIt prog w A env G iter Vs := by
  intro s av ho hg E Q hq
  refine h s av ho hg E _ fun xv s₁ hv k₁ => ?_
  obtain ⟨a, vs, rfl, hav, hl, hi⟩ := hv
  have hl' : s₁.heap.IsTuple a vs.toArray := hl
  refine wpAny_pyIter_tuple hl' ?_
  have hlt : a < s₁.heap.objs.size := by obtain ⟨o, e, _⟩ := id hl; exact Heap.lt_size e
  have hlen : vs.toArray.size = Vs.length := by rw [List.size_toArray]; exact hi.length
  have W := Walks.tuple (prog := prog) (w := w) hh s₁.heap.objs.size a (Nat.ne_of_lt hlt) vs.toArray
  rw [hlen] at W
  have hn : s.heap.get? s₁.heap.objs.size = none := by
    cases e : s.heap.get? s₁.heap.objs.size with
    | none => rfl
    | some o => exact absurd (Heap.lt_size (k₁.kp _ _ e)) (Nat.lt_irrefl _)
  refine hq s₁.heap.objs.size _ _ _ _ (k₁.trans (Kps.push _ s₁.toks)) hn (fun _ _ st => let ⟨o, e, _⟩ := st.1; ⟨o, e⟩) W ⟨⟨_, Heap.get?_push_size _ rfl, rfl, rfl⟩, hl'.at fun o e => Heap.get?_push_of_some _ e⟩ ?_ ?_ ?_
  · intro b hb
    rw [Heap.size_push]
    rcases List.mem_cons.mp hb with rfl | hb
    · exact Nat.lt_succ_self _
    · rw [List.mem_singleton.mp hb]; exact Nat.lt_succ_of_lt hlt
  · intro b hb
    rcases List.mem_cons.mp hb with rfl | hb
    · exact .inl rfl
    · rw [List.mem_singleton.mp hb]
      obtain ⟨o, e, hc, n, hd⟩ := id hl
      exact .inr ⟨⟨o, Heap.get?_push_of_some _ e, _, n, hd⟩, hav⟩
  · intro i v _ hP
    obtain ⟨V, hV, hp⟩ := Paired.get' hi (i := i) (a := v) (by simpa using hP)
    exact ⟨V, hV, V.up (V.grow hp (grow_new (new_none _))) (Kps.push _ s₁.toks).sqk⟩

/-- the letters of a text, as texts -/
def letters (x : Str) : List Str := x.cps.toList.map fun c => ⟨#[c]⟩
theorem it_str {iter : Expr} {x : Str} (hh : A.handled = none) (h : Ev prog w A env G iter (VStr x)) : EvIt prog w A env G iter ((letters x).map VStr) := by
  intro s av ho hg E Q hq
  refine h s av ho hg E _ fun xv s₁ hv k₁ => ?_
  obtain ⟨t, rfl⟩ := hv
  have hn : s.heap.get? s₁.heap.objs.size = none := by
    cases e : s.heap.get? s₁.heap.objs.size with
    | none => rfl
    | some o => exact absurd (Heap.lt_size (k₁.kp _ _ e)) (Nat.lt_irrefl _)
  have hlen : x.cps.size = ((letters x).map VStr).length := by simp [letters]
  have fin : ∀ (o : Obj) (St : Nat → Heap → Prop), (∀ i h, St i h → ∃ o, h.get? s₁.heap.objs.size = some o) → Walks prog w A s₁.heap.objs.size [s₁.heap.objs.size] [s₁.heap.objs.size] x.cps.size (SignAt x) St → St 0 (s₁.heap.push o) → Q (.ref s₁.heap.objs.size) { s₁ with heap := s₁.heap.push o } := by
    intro o St hf W' hst
    rw [hlen] at W'
    refine hq s₁.heap.objs.size { s₁ with heap := s₁.heap.push o } _ _ _ (k₁.trans (Kps.push _ s₁.toks)) hn hf W' hst ?_ ?_ ?_
    · intro b hb
      rw [List.mem_singleton.mp hb]
      show _ < (s₁.heap.push o).objs.size
      rw [Heap.size_push]; exact Nat.lt_succ_self _
    · intro b hb; exact .inl (List.mem_singleton.mp hb)
    · rintro i v _ ⟨c, u, hc, rfl⟩
      refine ⟨VStr ⟨#[c]⟩, ?_, ⟨u, rfl⟩⟩
      simp only [letters, List.getElem?_map]
      rw [show x.cps.toList[i]? = some c by simpa using hc]
      rfl
  cases ha : x.cps.all (· < 128)
  · exact wpAny_pyIter_wide ha (fin _ _ (fun _ _ st => let ⟨o, e, _⟩ := st; ⟨o, e⟩) (Walks.strWide hh _ x t) ⟨_, Heap.get?_push_size _ rfl, rfl, rfl⟩)
  · exact wpAny_pyIter_ascii ha (fin _ _ (fun _ _ st => let ⟨o, e, _⟩ := st; ⟨o, e⟩) (Walks.strAscii hh _ x t) ⟨_, Heap.get?_push_size _ rfl, rfl, rfl⟩)

/-- range(e) -/
theorem it_range {e : Expr} {np pos : Pos} {n : Nat} (hh : A.handled = none) (hf : Ev prog w A env G (.Name "range" np) (VEq (.type "range"))) (h : Ev prog w A env G e (VInt n)) (hn : n < 2 ^ 62)
    (he : starEach [e] env = [(false, eval e env)] := by kernel_rfl!) : EvIt prog w A env G (.Call (.Name "range" np) [e] [] pos) ((List.range n).map fun (i : Nat) => VInt i) := by
  intro s av ho hg E Q hq
  refine Call_ (hf s av ho hg E _ fun f s₀ hf' k₀ => ?_)
  obtain rfl : f = .type "range" := hf'
  refine PyProof.Rows.callWith_type1 (args_cons (h s₀ av (ho.up k₀.kp) (G.up hg k₀.kp) E _ fun v s₁ hv k₁ => args_nil ?_) he) he rfl
  obtain ⟨t, rfl⟩ := hv
  refine call_range_1 (wpAny_pyIter_range (IsRange.new ..) (small_one (by decide) (by decide) (by omega) (by omega)) ?_)
  have hsz : Builtin.Range.rangeSize 0 (n : Int) 1 = (n : Int) := by rw [rangeSize_one]; split <;> omega
  have k := k₀.trans k₁
  have hnI : ∀ I, s₁.heap.objs.size ≤ I → s.heap.get? I = none := fun I hI => by
    cases e : s.heap.get? I with
    | none => rfl
    | some o => exact absurd (Heap.lt_size (k.kp _ _ e)) (Nat.not_lt.mpr hI)
  have W := Walks.range (prog := prog) (w := w) hh (s₁.heap.objs.size + 1) 0 1 n
  have W' : Walks prog w A (s₁.heap.objs.size + 1) [s₁.heap.objs.size + 1] [s₁.heap.objs.size + 1] ((List.range n).map fun (i : Nat) => VInt i).length (fun i v => ∃ t, v = .int (i : Int) t) (fun i h => IsRangeIter h (s₁.heap.objs.size + 1) (i : Int) ((n : Int) - (i : Nat)) 1) := by
    simpa using W
  have hS : (s₁.heap.push { cls := .type "range", data := .fields #[.int 0 (s₁.toks), .int n t, .int 1 (s₁.toks + 1)] }).objs.size = s₁.heap.objs.size + 1 := Heap.size_push ..
  have hI := Heap.get?_push_size (h := s₁.heap.push { cls := .type "range", data := .fields #[.int 0 (s₁.toks), .int n t, .int 1 (s₁.toks + 1)] }) (o := { cls := .type "range_iterator", data := .fields #[rawInt 0, rawInt (Builtin.Range.rangeSize 0 n 1), rawInt 1] }) rfl
  rw [hS] at hI
  show Q (.ref (s₁.heap.push { cls := .type "range", data := .fields #[.int 0 (s₁.toks), .int n t, .int 1 (s₁.toks + 1)] }).objs.size) _
  rw [hS]
  refine hq _ _ [s₁.heap.objs.size + 1] _ _ (k.trans ((Kps.push _ (s₁.toks + 1 + 1)).trans (Kps.push _ (s₁.toks + 1 + 1)))) (hnI _ (Nat.le_succ _)) (fun _ _ st => ⟨_, st⟩) W' ?_ ?_ ?_ ?_
  · have e2 : ((n : Int) - ((0 : Nat) : Int)) = Builtin.Range.rangeSize 0 (n : Int) 1 := by rw [hsz]; simp
    rw [e2]
    exact hI
  · intro b hb; rw [List.mem_singleton.mp hb]; simp [Heap.size_push]
  · intro b hb; exact .inl (List.mem_singleton.mp hb)
  · rintro i v hi ⟨u, rfl⟩
    have hi' : i < n := by simpa using hi
    exact ⟨VInt i, by simp [hi'], ⟨u, rfl⟩⟩
end
end Mine

end
section
namespace Mine

section
variable {prog : Program} {w : World} {A : Around} {env : Env} {h₀ : Heap} {md : Addr → Prop}

theorem FrameIs.locals {ρ : Locs} {av : Addr → Prop} {h : Heap} (hF : FrameIs env h₀ ρ av h) : ∃ o es ep, h.get? env.locals = some o ∧ o.data = .dict es ep := by
  obtain ⟨m, F, _, _⟩ := hF
  obtain ⟨o, es, ep, e, d, _⟩ := F.ns
  exact ⟨o, es, ep, e, d⟩
theorem FrameIs.cellAt {ρ : Locs} {av : Addr → Prop} {h : Heap} (hF : FrameIs env h₀ ρ av h) {n : Str} {c : Addr} (hc : env.cells.lookup n = some c) : ∃ v, h.IsCell c v := by
  obtain ⟨m, _, _, C⟩ := hF; exact C n c hc

/-- a for over anything that is walked -/
theorem ht_for {ρ₀ : Locs} {X₀ : Heap → Prop} {x : Str} {px pos : Pos} {iter : Expr} {body : List Stmt} {Vs : List VP} {hX₀ : OnMd md X₀} (ρ : Nat → Locs) (X : Nat → Heap → Prop) (f : Fx env h₀ md) (hX : ∀ i, OnMd md (X i))
    (hit : EvIt prog w A env (frHP env h₀ ρ₀ md X₀ hX₀) iter Vs) (hρ0 : ∀ p ∈ ρ 0, ρ₀.lookup p.1 = some p.2) (hX0 : ∀ h, X₀ h → X 0 h)
    (hx : env.kindOf x = some .local ∨ (env.kindOf x = some .cell ∧ ∃ c, env.cells.lookup x = some c))
    (hbody : ∀ i V, Vs[i]? = some V → HT prog w A env h₀ md ((x, V) :: ρ i) (X i) (execs body env) (ρ (i + 1)) (X (i + 1)))
    (hs : ∀ x, foldedSetIterable iter env x = pure x := by intro _; kernel_rfl!) :
    HT prog w A env h₀ md ρ₀ X₀ (exec (.For (.Name x px) iter body [] pos) env) (ρ Vs.length) (X Vs.length) := by
  intro s av hm ho hF hXs E Q hq
  refine wpAny_For (hit s av ho ⟨hF, hXs, hm⟩ E _ fun I s' fp P St k hI hIe W hst hfp hfp2 hP => ?_) hs
  obtain ⟨oL, esL, epL, hoL, hdL⟩ := hF.locals
  have hLI : I ≠ env.locals := by rintro rfl; rw [hI] at hoL; cases hoL
  have hcI : ∀ n, env.cells.lookup n ≠ some I := fun n hc => by
    obtain ⟨v, o, e, _⟩ := hF.cellAt hc; rw [hI] at e; cases e
  have h0I : h₀.get? I = none := by
    obtain ⟨m, F, _, _⟩ := hF
    cases e : h₀.get? I with
    | none => rfl
    | some o => have := F.keep _ _ e; rw [hI] at this; cases this
  have hmI : ¬ md I := fun h => by obtain ⟨o, e⟩ := ho I (hm I h); rw [hI] at e; cases e
  have hfpk : ∀ b ∈ fp, b ≠ env.locals ∧ (∀ n, env.cells.lookup n ≠ some b) ∧ ¬ md b := by
    intro b hb
    rcases hfp2 b hb with rfl | ⟨⟨o, e, xs, n, hd⟩, hav⟩
    · exact ⟨hLI, hcI, hmI⟩
    · refine ⟨?_, fun n' hc => ?_, fun h => hav (hm b h)⟩
      · rintro rfl; rw [k.kp _ _ hoL] at e; cases e; rw [hdL] at hd; cases hd
      · obtain ⟨v, o', e', hd'⟩ := hF.cellAt hc
        rw [k.kp _ _ e'] at e; cases e; rw [hd'] at hd; cases hd
  refine codeAny_forLoop (fun j s'' => ∃ i, i ≤ Vs.length ∧ j = Vs.length + 1 - i ∧ St i s''.heap ∧ FrameIs env h₀ (ρ i) (fun b => av b ∨ b = I) s''.heap ∧ X i s''.heap ∧ Off (fun b => av b ∨ b = I) s''.heap ∧ Mv env md s s'' ∧
      (∀ i v, i < Vs.length → P i v → ∃ V, Vs[i]? = some V ∧ V.P (fun b => av b ∨ b = I) s''.heap v)) ?_ (Vs.length + 1)
    ⟨0, Nat.zero_le _, rfl, hst, ((hF.sub hρ0).grow (grow_new hI)).up k.kp, hX 0 |>.kp _ _ (hX0 _ hXs) k.kp, (fun b hb => hb.elim (fun h => ho.up k.kp b h) fun e => by rw [e]; exact hIe _ _ hst), k.mv, hP⟩
  rintro j s₁ ⟨i, hi, rfl, hsti, hFi, hXi, hoi, hmv, hPi⟩
  by_cases hlt : i < Vs.length
  · refine W.item i _ _ _ hlt hsti fun v h₁ tk₁ hPv hst₁ hk₁ => ?_
    have hk₁' : ∀ b o, b ≠ I → s₁.heap.get? b = some o → h₁.get? b = some o := fun b o hb e => hk₁ b o (fun hm => hb (List.mem_singleton.mp hm)) e
    obtain ⟨V, hV, hVv⟩ := hPi i v hlt hPv
    have hF₁ : FrameIs env h₀ (ρ i) (fun b => av b ∨ b = I) h₁ := hFi.step hk₁' (.inr rfl) hLI hcI h0I
    have hX₁ : X i h₁ := hX i _ _ hXi fun b o hb e => hk₁' b o (by rintro rfl; exact hmI hb) e
    have sq : ∀ {W : VP} {u}, W.P (fun b => av b ∨ b = I) s₁.heap u → W.P (fun b => av b ∨ b = I) h₁ u := fun {W u} p => W.up p fun b o hb _ e => hk₁' b o (fun e' => hb (.inr e')) e
    obtain ⟨oI, hoI⟩ := hoi I (.inr rfl)
    have hIt : ∃ o, h₁.get? I = some o := hIe _ _ hst₁
    have ho₁ : Off (fun b => av b ∨ b = I) h₁ := fun b hb => by
      by_cases hbI : b = I
      · rw [hbI]; exact hIt
      · obtain ⟨o, e⟩ := hoi b hb; exact ⟨o, hk₁' b o hbI e⟩
    refine wpAny_assign_Name (store (s := { s₁ with heap := h₁, toks := tk₁ }) f.kind f.cel f.mdo (hX i) hx ho₁ hF₁ hX₁ (sq hVv) fun s₂ hF₂ hX₂ ho₂ mv₂ => ?_)
    refine hbody i V hV s₂ _ (fun b hb => .inl (hm b hb)) ho₂ hF₂ hX₂ _ _ fun s₃ hF₃ hX₃ ho₃ mv₃ => ?_
    obtain ⟨h3, t3, e3, k3⟩ := mv₂.trans mv₃
    subst e3
    have old : ∀ b o, b ≠ I → b ≠ env.locals → (∀ n, env.cells.lookup n ≠ some b) → ¬ md b → s₁.heap.get? b = some o → h3.get? b = some o := fun b o a0 a1 a2 a3 e => k3 b o a1 a2 a3 (hk₁' b o a0 e)
    refine ⟨Vs.length + 1 - (i + 1), by omega, i + 1, hlt, rfl, ?_, hF₃, hX₃, ho₃, ?_, ?_⟩
    · exact W.frame _ _ _ hst₁ fun b hb o e => k3 b o (hfpk b hb).1 (hfpk b hb).2.1 (hfpk b hb).2.2 e
    · obtain ⟨ha, ta, ea, ka⟩ := hmv
      subst ea
      exact ⟨h3, t3, rfl, fun b o a1 a2 a3 e => old b o (by rintro rfl; rw [hI] at e; cases e) a1 a2 a3 (ka b o a1 a2 a3 e)⟩
    · intro i' v' hi' hp'
      obtain ⟨V', hV', hv'⟩ := hPi i' v' hi' hp'
      refine ⟨V', hV', V'.up hv' fun b o hb ⟨xs, n, hd⟩ e => old b o (fun e' => hb (.inr e')) ?_ ?_ (fun h => hb (.inl (hm b h))) e⟩
      · rintro rfl
        obtain ⟨o', es, ep, e', d'⟩ := hFi.locals
        rw [e'] at e; cases e; rw [d'] at hd; cases hd
      · intro n' hc
        obtain ⟨v'', o', e', d'⟩ := hFi.cellAt hc
        rw [e'] at e; cases e; rw [d'] at hd; cases hd
  · have hin : i = Vs.length := by omega
    subst hin
    refine W.done _ _ _ hsti fun h₁ tk₁ hk₁ => wpAny_execs_nil ?_
    have hk₁' : ∀ b o, b ≠ I → s₁.heap.get? b = some o → h₁.get? b = some o := fun b o hb e => hk₁ b o (fun hm => hb (List.mem_singleton.mp hm)) e
    have hF₁ : FrameIs env h₀ (ρ Vs.length) (fun b => av b ∨ b = I) h₁ := hFi.step hk₁' (.inr rfl) hLI hcI h0I
    refine hq { s₁ with heap := h₁, toks := tk₁ } (hF₁.grow fun b hb => .inl (.inl hb)) (hX _ _ _ hXi fun b o hb e => hk₁' b o (by rintro rfl; exact hmI hb) e) (fun b hb => ?_) ?_
    · obtain ⟨o, e⟩ := hoi b (.inl hb)
      exact ⟨o, hk₁' b o (by rintro rfl; obtain ⟨o', e'⟩ := ho b hb; rw [hI] at e'; cases e') e⟩
    · obtain ⟨ha, ta, ea, ka⟩ := hmv
      subst ea
      exact ⟨h₁, tk₁, rfl, fun b o a1 a2 a3 e => hk₁' b o (by rintro rfl; rw [hI] at e; cases e) (ka b o a1 a2 a3 e)⟩
end
end Mine

end
section
namespace Mine

/-- the turns of a comprehension with one clause and no test, whatever its target -/
theorem compLoop_any {prog : Program} {w : World} {A : Around} {R : Result → Shared → Prop} {s : Shared} {elt target iter : Expr} {scope : Scope} {pos : Pos} {it acc : Value} {env : Env} (I : Nat → Shared → Prop)
    (turn : ∀ n s, I n s → ∀ E : Value → Shared → Prop, wpAny (model prog w) A (pyNext it) (fun r s₁ => match r with
      | none => R (.ok .next) s₁
      | some v => wpAny (model prog w) A (letOwnedTupleGo target it v) (fun _ s₁' => wpAny (model prog w) A (assign target env v) (fun _ s₂ => wpAny (model prog w) A (eval elt env) (fun x s₃ =>
          wpAny (model prog w) A (call (.builtin "list.append") [acc, x]) (fun _ s₄ => ∃ m, m < n ∧ I m s₄) E s₃) E s₂) E s₁') E s₁) E s)
    (n : Nat) (h : I n s) : codeAny (model prog w) A (.compLoop (.ListComp elt [⟨target, iter, [], 0⟩] scope pos) 0 it acc env) R s := by
  refine codeAny_loop rfl I (fun n s hI => ?_) n h
  show wpAny _ _ ((compTurn (.ListComp elt [⟨target, iter, [], 0⟩] scope pos) 0 it acc env).onRaise (fun x => do noteFrame x env; theTreesLotGoes x)) _ _ s
  refine wpAny_noted ?_
  rw [compTurn_list1]
  refine wpAny_bind (wpAny_standAt (wpAny_bind (wpAny_mono (turn n s hI _) (fun r s₁ h₁ => ?_) fun _ _ h' => h')))
  cases r with
  | none => exact wpAny_pure h₁
  | some v =>
    refine wpAny_bind (wpAny_mono h₁ (fun _ s₁' h₁' => ?_) fun _ _ h' => h')
    exact wpAny_bind (wpAny_mono h₁' (fun _ s₂ h₂ => wpAny_bind (wpAny_bind (wpAny_mono h₂ (fun x s₃ h₃ => wpAny_bind (wpAny_mono h₃
      (fun _ s₄ h₄ => wpAny_pure (wpAny_pure ⟨rfl, h₄⟩)) fun _ _ h' => h')) fun _ _ h' => h'))) fun _ _ h' => h')

section
variable {prog : Program} {w : World} {A : Around} {env : Env} {h₀ : Heap}

/-- a local name of a frame is bound: only the frame's own object turns -/
theorem storeLoc {ρ : Locs} {av : Addr → Prop} {s : Shared} {x : Str} {V : VP} {v : Value} {E : Value → Shared → Prop} {Q : Unit → Shared → Prop} (hk : env.scope.kind = .function) (hl : env.kindOf x = some .local)
    (ho : Off av s.heap) (hF : FrameIs env h₀ ρ av s.heap) (hv : V.P av s.heap v)
    (hq : ∀ h', FrameIs env h₀ ((x, V) :: ρ) av h' → Off av h' → (∀ b o, b ≠ env.locals → s.heap.get? b = some o → h'.get? b = some o) → Q () { s with heap := h', toks := s.toks + 1 }) : wpAny (model prog w) A (storeName env x v) Q E s := by
  obtain ⟨m, F, Vs, Cs⟩ := hF
  obtain ⟨oL, esL, epL, hoL, hdL, _⟩ := id F.ns
  refine wpAny_storeName_local hl F.ns (fun h' hn hs => ?_) (by rw [hk]; rfl)
  have sq : SqK av s.heap h' := fun b o _ ⟨xs, n, hd⟩ e => hs.extBut b o (by rintro rfl; rw [hoL] at e; cases e; rw [hdL] at hd; cases hd) e
  have hcl : ∀ c v, s.heap.IsCell c v → h'.IsCell c v := fun c v ⟨o, e, hd⟩ => ⟨o, hs.extBut c o (by rintro rfl; rw [hoL] at e; cases e; rw [hdL] at hd; cases hd) e, hd⟩
  refine hq h' ⟨_, F.set hn hs, fun y W hy => ?_, fun n c hc => ?_⟩ (fun b hb => ?_) fun b o hb e => hs.extBut b o hb e
  · by_cases hyx : y = x
    · subst hyx
      rw [List.lookup_cons_self] at hy
      obtain rfl := Option.some.inj hy
      exact ⟨v, V.up hv sq, .inl ⟨hl, by simp⟩⟩
    · rw [List.lookup_cons, show (y == x) = false by simpa using hyx] at hy
      obtain ⟨u, hu, h1⟩ := Vs y W hy
      refine ⟨u, W.up hu sq, ?_⟩
      rcases h1 with ⟨a1, a2⟩ | ⟨a1, c, a2, a3⟩
      · exact .inl ⟨a1, by simp [hyx, a2]⟩
      · exact .inr ⟨a1, c, a2, hcl _ _ a3⟩
  · obtain ⟨u, hu⟩ := Cs n c hc
    exact ⟨u, hcl _ _ hu⟩
  · obtain ⟨o, e⟩ := ho b hb
    by_cases hbL : b = env.locals
    · subst hbL; obtain ⟨o', _, _, e', _⟩ := hn; exact ⟨o', e'⟩
    · exact ⟨o, hs.extBut b o hbL e⟩

/-- what the target of a clause binds -/
def Binds (prog : Program) (w : World) (A : Around) (cenv : Env) (h₀ : Heap) (target : Expr) (V : VP) (ρc ρt : Locs) : Prop :=
  ∀ (s : Shared) (av : Addr → Prop) (v : Value), Off av s.heap → FrameIs cenv h₀ ρc av s.heap → V.P av s.heap v → ∀ (E : Value → Shared → Prop) (Q : Unit → Shared → Prop),
    (∀ h' tk, FrameIs cenv h₀ ρt av h' → Off av h' → (∀ b o, b ≠ cenv.locals → s.heap.get? b = some o → h'.get? b = some o) → Q () { s with heap := h', toks := tk }) →
    wpAny (model prog w) A (assign target cenv v) Q E s
theorem binds_name {cenv : Env} {x : Str} {px : Pos} {V : VP} {ρc : Locs} (hk : cenv.scope.kind = .function) (hl : cenv.kindOf x = some .local) : Binds prog w A cenv h₀ (.Name x px) V ρc ((x, V) :: ρc) :=
  fun s av v ho hF hv E Q hq => wpAny_assign_Name (storeLoc hk hl ho hF hv fun h' a b c => hq h' _ a b c)

/-- what a comprehension captures -/
structure Caps (env : Env) (scope : Scope) (cl : List (Str × Addr)) (ρ ρc : Locs) : Prop where
  clos : closureFor scope env = pure cl
  cells : ∀ n c, cl.lookup n = some c → env.cells.lookup n = some c
  vars : ∀ p ∈ ρc, ρ.lookup p.1 = some p.2 ∧ env.kindOf p.1 = some .cell ∧ cl.lookup p.1 = env.cells.lookup p.1 ∧ (relabel scope env).names.lookup p.1 = some .cell
  nocell : ∀ y ∈ scope.names, y.2 ≠ .cell
  kind : scope.kind = .function
  names : ∀ y ∈ scope.names, y.2 = .local → scope.names.lookup y.1 = some .local
theorem caps_nil {scope : Scope} {ρ : Locs} (hclos : closureFor scope env = pure []) (nocell : ∀ y ∈ scope.names, y.2 ≠ .cell) (kind : scope.kind = .function)
    (names : ∀ y ∈ scope.names, y.2 = .local → scope.names.lookup y.1 = some .local) : Caps env scope [] ρ [] := ⟨hclos, (fun _ _ h => by simp at h), (fun _ h => by cases h), nocell, kind, names⟩

theorem comp_frame {scope : Scope} {cl : List (Str × Addr)} {ρ ρc : Locs} {av : Addr → Prop} {h h' : Heap} {C : Addr} {m : Str → Option Value} (K : Caps env scope cl ρ ρc) (hF : FrameIs env h₀ ρ av h) (k : ∀ b o, h.get? b = some o → h'.get? b = some o) (hn : h'.Ns C m)
    (hC : h.objs.size ≤ C) : FrameIs (compEnvC scope cl C env) h₀ ρc av h' := by
  obtain ⟨m₀, F, Vs, Cs⟩ := hF
  refine ⟨m, ⟨hn, fun b o e => k b o (F.keep b o e), Nat.le_trans (Nat.le_of_lt (Nat.lt_of_le_of_lt F.above F.ns.lt)) hC⟩, fun y V hy => ?_, fun n c hc => ?_⟩
  · obtain ⟨hρ, hk, hcl, hlab⟩ := K.vars (y, V) (mem_of_lookup hy)
    obtain ⟨v, hv, h1⟩ := Vs y V hρ
    refine ⟨v, V.up hv (Kp.sqk k), .inr ⟨.inl hlab, ?_⟩⟩
    rcases h1 with ⟨a1, _⟩ | ⟨_, c, a2, a3⟩
    · rw [hk] at a1; cases a1
    · exact ⟨c, hcl.trans a2, a3.keeps k⟩
  · obtain ⟨v, hv⟩ := Cs n c (K.cells n c hc)
    exact ⟨v, hv.keeps k⟩

/-- the block of a comprehension, behind its source -/
theorem comp_core {elt target iter : Expr} {scope : Scope} {cl : List (Str × Addr)} {pos : Pos} {s₂ : Shared} {I : Addr} {fp : List Addr} {P : Nat → Value → Prop} {St : Nat → Heap → Prop} {Vs Ws : List VP} {ρ ρc : Locs} {ρt : Nat → Locs}
    {md av : Addr → Prop} {X : Heap → Prop} {RR : Value → Addr → Result → Shared → Prop} {E : Value → Shared → Prop} (hlen : Ws.length = Vs.length) (hsz : Vs.length ≤ sizeLine)
    (K : Caps env scope cl ρ ρc) (hX : OnMd md X) (hm : ∀ b, md b → av b) (ho : Off av s₂.heap) (hF : FrameIs env h₀ ρ av s₂.heap) (hXs : X s₂.heap) (havI : av I) (hmI : ¬ md I) (h0I : h₀.get? I = none) (hcI : ∀ n, env.cells.lookup n ≠ some I)
    (W : Walks prog w A I fp [I] Vs.length P St) (hIe : ∀ i h, St i h → ∃ o, h.get? I = some o) (hst : St 0 s₂.heap) (hfp : ∀ b ∈ fp, b < s₂.heap.objs.size)
    (hP : ∀ i v, i < Vs.length → P i v → ∃ V, Vs[i]? = some V ∧ V.P av s₂.heap v)
    (htgt : ∀ s v, s.heap.get? I ≠ none → ∀ E (Q : Unit → Shared → Prop), (∃ i, St i s.heap) → Q () s → wpAny (model prog w) A (letOwnedTupleGo target (.ref I) v) Q E s)
    (hb : ∀ i V C, Vs[i]? = some V → Binds prog w A (compEnvC scope cl C env) h₀ target V ρc (ρt i))
    (he : ∀ i W' C, Ws[i]? = some W' → Ev prog w A (compEnvC scope cl C env) (frHP (compEnvC scope cl C env) h₀ (ρt i) md X hX) elt W')
    (hRR : ∀ D C h' tk m' ys, s₂.heap.get? D = none → s₂.heap.get? C = none → D ≠ C → h'.Ns C m' → h'.PlainList D ys → Items (fun b => av b ∨ b = D) h' ys.toList Ws → X h' →
      (∀ b o, b ≠ I → s₂.heap.get? b = some o → h'.get? b = some o) → RR (.ref D) C (.ok .next) { s₂ with heap := h', toks := tk }) :
    wpAny (model prog w) A (newList []) (fun acc s₃ => wpAny (model prog w) A (newFunctionEnv scope env.globals cl [] env.qual none .none (some env)) (fun cenv s₄ =>
      codeAny (model prog w) A (.compStart (.ListComp elt [⟨target, iter, [], 0⟩] scope pos) 0 (.ref I) acc { cenv with scope := relabel scope env }) (RR acc cenv.locals) s₄) E s₃) E s₂ := by
  refine wpAny_newObj_type (wpAny_newFunctionEnv K.nocell (by intro y hy; simp at hy) (fun h₁ hns₁ hsb₁ => ?_) K.kind)
  dsimp only at hns₁ hsb₁ ⊢
  generalize hH2 : s₂.heap.push { cls := .type "list", dict := none, data := .seq ([] : List Value).toArray } = H2 at hns₁ hsb₁ ⊢
  have hC : H2.objs.size = s₂.heap.objs.size + 1 := by rw [← hH2, Heap.size_push]
  generalize hCC : H2.objs.size = C at hns₁ hsb₁ hC ⊢
  generalize hDD : s₂.heap.objs.size = D at hC ⊢
  have hDC : D ≠ C := by rw [hC]; exact Nat.ne_of_lt (Nat.lt_succ_self _)
  have below : ∀ b, b < s₂.heap.objs.size → b ≠ C ∧ b ≠ D := fun b hb => ⟨by rw [hC, ← hDD]; exact Nat.ne_of_lt (Nat.lt_succ_of_lt hb), by rw [← hDD]; exact Nat.ne_of_lt hb⟩
  have hDf : D ∉ fp := fun hm => by have := hfp _ hm; rw [hDD] at this; exact Nat.lt_irrefl _ this
  have hCf : C ∉ fp := fun hm => by have := hfp _ hm; rw [hDD, hC] at this; exact Nat.lt_irrefl _ (Nat.lt_of_succ_lt this)
  have old : Kp s₂.heap h₁ := fun b o e => hsb₁.extBut b o (below b (Heap.lt_size e)).1 (Heap.get?_push_of_some _ (hH2 ▸ Heap.get?_push_of_some _ e))
  have hacc : h₁.PlainList D #[] := ⟨_, hsb₁.extBut _ _ hDC (Heap.get?_push_of_some _ (hH2 ▸ hDD ▸ Heap.get?_push_size _ rfl))⟩
  have hst₁ : St 0 h₁ := W.frame _ _ _ hst fun b _ o e => old b o e
  have hDn : s₂.heap.get? D = none := hDD ▸ new_none _
  have hCn : s₂.heap.get? C = none := by
    cases e : s₂.heap.get? C with
    | none => rfl
    | some o' => exact absurd (Heap.lt_size e) (by rw [hDD, hC]; exact Nat.not_lt.mpr (Nat.le_succ _))
  have hDI : D ≠ I := by rintro rfl; obtain ⟨o, e⟩ := hIe _ _ hst; rw [hDn] at e; cases e
  have hCI : C ≠ I := by rintro rfl; obtain ⟨o, e⟩ := hIe _ _ hst; rw [hCn] at e; cases e
  have hmD : ¬ md D := fun h => by obtain ⟨o, e⟩ := ho D (hm D h); rw [hDn] at e; cases e
  have hmC : ¬ md C := fun h => by obtain ⟨o, e⟩ := ho C (hm C h); rw [hCn] at e; cases e
  have hh : ∀ a, s₂.heap.get? a = none → h₀.get? a = none := fun a ha => by
    obtain ⟨m, F, _, _⟩ := hF
    cases e : h₀.get? a with
    | none => rfl
    | some o => have := F.keep _ _ e; rw [ha] at this; cases this
  have hcD : ∀ n, (compEnvC scope cl C env).cells.lookup n ≠ some D := fun n hc => by
    obtain ⟨v, o, e, _⟩ := hF.cellAt (K.cells n D hc); rw [hDn] at e; cases e
  have hcI' : ∀ n, (compEnvC scope cl C env).cells.lookup n ≠ some I := fun n hc => hcI n (K.cells n I hc)
  have loop : ∀ s₃ : Shared, s₃ = { s₂ with heap := h₁, toks := s₂.toks + ([] : List (Str × Value)).length } →
      codeAny (model prog w) A (.compLoop (.ListComp elt [⟨target, iter, [], 0⟩] scope pos) 0 (.ref I) (.ref D) (compEnvC scope cl C env)) (RR (.ref D) C) s₃ := by
    rintro s₃ rfl
    refine compLoop_any (fun j s' => ∃ h' tk ys i, s' = { s₂ with heap := h', toks := tk } ∧ i ≤ Vs.length ∧ j = Vs.length + 1 - i ∧ St i h' ∧ h'.PlainList D ys ∧ Items (fun b => av b ∨ b = D) h' ys.toList (Ws.take i) ∧
        FrameIs (compEnvC scope cl C env) h₀ ρc (fun b => av b ∨ b = D) h' ∧ Off (fun b => av b ∨ b = D) h' ∧ X h' ∧ (∀ b o, b ≠ I → s₂.heap.get? b = some o → h'.get? b = some o) ∧
        (∀ i v, i < Vs.length → P i v → ∃ V, Vs[i]? = some V ∧ V.P (fun b => av b ∨ b = D) h' v)) ?_ (Vs.length + 1)
      ⟨h₁, _, #[], 0, rfl, Nat.zero_le _, rfl, hst₁, hacc, (by rw [List.take_zero]; exact Paired.nil), comp_frame K (hF.grow (grow_new hDn)) old hns₁ (by rw [hDD, hC]; exact Nat.le_succ _),
        (fun b hb => hb.elim (fun h => ho.up old b h) fun e => by rw [e]; obtain ⟨n, e⟩ := hacc; exact ⟨_, e⟩), hX.kp _ _ hXs old, fun b o _ e => old b o e,
        fun i v hi hp => let ⟨V, h1, h2⟩ := hP i v hi hp; ⟨V, h1, V.up (V.grow h2 (grow_new hDn)) (Kp.sqk old)⟩⟩
    rintro j s' ⟨H, tk, ys, i, rfl, hi, rfl, hsti, hacci, hits, hFi, hoi, hXi, hk, hPi⟩ E'
    by_cases hlt : i < Vs.length
    · refine W.item i _ _ _ hlt hsti fun v h₂ tk₂ hPv hst₂ hk₂ => ?_
      have hk₂' : ∀ b o, b ≠ I → H.get? b = some o → h₂.get? b = some o := fun b o hb e => hk₂ b o (fun hm => hb (List.mem_singleton.mp hm)) e
      obtain ⟨V, hV, hVv⟩ := hPi i v hlt hPv
      obtain ⟨W', hW'⟩ := get_of_lt (l := Ws) (i := i) (by rw [hlen]; exact hlt)
      have hIne : h₂.get? I ≠ none := by obtain ⟨o, e⟩ := hIe _ _ hst₂; rw [e]; exact fun h => nomatch h
      refine htgt { s₂ with heap := h₂, toks := tk₂ } v hIne _ _ ⟨_, hst₂⟩ ?_
      have hF₂ : FrameIs (compEnvC scope cl C env) h₀ ρc (fun b => av b ∨ b = D) h₂ := hFi.step hk₂' (.inl havI) (Ne.symm hCI) hcI' h0I
      have ho₂ : Off (fun b => av b ∨ b = D) h₂ := fun b hb => by
        by_cases hbI : b = I
        · rw [hbI]; exact hIe _ _ hst₂
        · obtain ⟨o, e⟩ := hoi b hb; exact ⟨o, hk₂' b o hbI e⟩
      have up₂ : ∀ {W : VP} {u}, W.P (fun b => av b ∨ b = D) H u → W.P (fun b => av b ∨ b = D) h₂ u := fun {W u} p => W.up p fun b o hb _ e => hk₂' b o (by rintro rfl; exact hb (.inl havI)) e
      refine hb i V C hV { s₂ with heap := h₂, toks := tk₂ } _ v ho₂ hF₂ (up₂ hVv) _ _ fun h₃ tk₃ hF₃ ho₃ hk₃ => ?_
      have k₂₃ : ∀ b o, b ≠ I → b ≠ C → H.get? b = some o → h₃.get? b = some o := fun b o a1 a2 e => hk₃ b o a2 (hk₂' b o a1 e)
      have hX₃ : X h₃ := hX _ _ hXi fun b o hb e => k₂₃ b o (by rintro rfl; exact hmI hb) (by rintro rfl; exact hmC hb) e
      refine he i W' C hW' { s₂ with heap := h₃, toks := tk₃ } _ ho₃ ⟨hF₃, hX₃, fun b hb' => .inl (hm b hb')⟩ _ _ fun y s₄ hy k₄ => ?_
      obtain ⟨h₄, tk₄, rfl, kp₄⟩ := k₄
      have hacc₄ : h₄.PlainList D ys := hacci.at fun o e => kp₄ _ o (k₂₃ D o hDI hDC e)
      have hlen' : ys.toList.length = i := by have := hits.length; rw [List.length_take, hlen, Nat.min_eq_left hi] at this; exact this
      have hys : ys.size ≤ sizeLine := by have : ys.toList.length = ys.size := by simp
                                          omega
      refine wpAny_list_append_plain (s := { s₂ with heap := h₄, toks := tk₄ }) hacc₄ (fun h₅ hl₅ hs₅ => ?_) hys
      have hs₅' : ∀ b o, b ≠ D → h₄.get? b = some o → h₅.get? b = some o := fun b o hb e => hs₅.extBut b o hb e
      have hF₄ : FrameIs (compEnvC scope cl C env) h₀ (ρt i) (fun b => av b ∨ b = D) h₄ := hF₃.up kp₄
      have allk : ∀ b o, b ≠ I → b ≠ C → b ≠ D → H.get? b = some o → h₅.get? b = some o := fun b o a1 a2 a3 e => hs₅' b o a3 (kp₄ b o (k₂₃ b o a1 a2 e))
      have sq₅ : ∀ {W : VP} {u}, W.P (fun b => av b ∨ b = D) h₄ u → W.P (fun b => av b ∨ b = D) h₅ u := fun {W u} p => W.up p fun b o hb _ e => hs₅' b o (fun e' => hb (.inr e')) e
      obtain ⟨oC, esC, epC, hoC, hdC⟩ := hFi.locals
      have sqH : ∀ {W : VP} {u}, W.P (fun b => av b ∨ b = D) H u → W.P (fun b => av b ∨ b = D) h₅ u := fun {W u} p => W.up p fun b o hb ⟨xs, n, hd⟩ e =>
        allk b o (by rintro rfl; exact hb (.inl havI)) (by intro e'; subst e'; change H.get? b = _ at hoC; rw [hoC] at e; cases e; rw [hdC] at hd; cases hd) (fun e' => hb (.inr e')) e
      refine ⟨Vs.length + 1 - (i + 1), by omega, h₅, tk₄, ys.push y, i + 1, rfl, hlt, rfl, ?_, hl₅, ?_, ?_, ?_, ?_, ?_, ?_⟩
      · exact W.frame _ _ _ hst₂ fun b hb' o e => hs₅' b o (fun h => hDf (h ▸ hb')) (kp₄ b o (hk₃ b o (fun (h : b = C) => hCf (h ▸ hb')) e))
      · have e1 : (ys.push y).toList = ys.toList ++ [y] := by simp
        have e2 : Ws.take (i + 1) = Ws.take i ++ [W'] := by rw [List.take_add_one, hW']; rfl
        rw [e1, e2]
        exact Paired.append (Paired.imp (fun _ _ p => sqH p) hits) (.cons (sq₅ hy) .nil)
      · obtain ⟨m₄, F₄, _, Cs₄⟩ := hF₄
        obtain ⟨_, _, Vs₀, _⟩ := hFi
        refine ⟨m₄, ⟨F₄.ns.at' fun o e => hs₅' _ o (Ne.symm hDC) e, fun b o e => hs₅' b o (by rintro rfl; rw [hh b hDn] at e; cases e) (F₄.keep b o e), F₄.above⟩, fun z V' hz => ?_, fun n c hc => ?_⟩
        · obtain ⟨u, hu, h1⟩ := Vs₀ z V' hz
          refine ⟨u, sqH hu, .inr ?_⟩
          rcases h1 with ⟨a1, _⟩ | ⟨a1, c, a2, o, a3, a4⟩
          · have := (K.vars (z, V') (mem_of_lookup hz)).2.2.2
            have a1' : (relabel scope env).names.lookup z = some .local := a1
            rw [this] at a1'; cases a1'
          · refine ⟨a1, c, a2, o, allk c o (by rintro rfl; exact hcI' z a2) ?_ (by rintro rfl; exact hcD z a2) a3, a4⟩
            rintro rfl
            change H.get? c = _ at hoC
            rw [hoC] at a3; cases a3; rw [hdC] at a4; cases a4
        · obtain ⟨u, o, e, d⟩ := Cs₄ n c hc
          exact ⟨u, o, hs₅' c o (by rintro rfl; exact hcD n hc) e, d⟩
      · intro b hb'
        by_cases hbD : b = D
        · rw [hbD]; obtain ⟨n, e⟩ := hl₅; exact ⟨_, e⟩
        · obtain ⟨o, e⟩ := ho₃ b hb'; exact ⟨o, hs₅' b o hbD (kp₄ b o e)⟩
      · exact hX _ _ hX₃ fun b o hb' e => hs₅' b o (by rintro rfl; exact hmD hb') (kp₄ b o e)
      · exact fun b o hbI e => allk b o hbI (below b (Heap.lt_size e)).1 (below b (Heap.lt_size e)).2 (hk b o hbI e)
      · exact fun i' v' hi' hp' => let ⟨V', h1, h2⟩ := hPi i' v' hi' hp'; ⟨V', h1, sqH h2⟩
    · have hin : i = Vs.length := by omega
      subst hin
      refine W.done _ _ _ hsti fun h₂ tk₂ hk₂ => ?_
      have hk₂' : ∀ b o, b ≠ I → H.get? b = some o → h₂.get? b = some o := fun b o hb e => hk₂ b o (fun hm => hb (List.mem_singleton.mp hm)) e
      have hF₂ : FrameIs (compEnvC scope cl C env) h₀ ρc (fun b => av b ∨ b = D) h₂ := hFi.step hk₂' (.inl havI) (Ne.symm hCI) hcI' h0I
      obtain ⟨m₂, F₂, _, _⟩ := hF₂
      refine hRR D C h₂ tk₂ m₂ ys hDn hCn hDC F₂.ns (hacci.at fun o e => hk₂' D o hDI e) ?_ (hX _ _ hXi fun b o hb' e => hk₂' b o (by rintro rfl; exact hmI hb') e) fun b o hbI e => hk₂' b o hbI (hk b o hbI e)
      rw [← hlen, List.take_length] at hits
      exact hits.up fun b o hb' _ e => hk₂' b o (by rintro rfl; exact hb' (.inl havI)) e
  exact codeAny_compStart_list (loop _ rfl) (W.self 0 _ _ _ hst₁ (loop _ rfl))

/-- a comprehension as an expression -/
theorem ev_comp {elt target iter : Expr} {scope : Scope} {cl : List (Str × Addr)} {pos : Pos} {Vs Ws : List VP} {ρ ρc : Locs} {md : Addr → Prop} {X : Heap → Prop} {hX : OnMd md X} (ρt : Nat → Locs) (K : Caps env scope cl ρ ρc)
    (hit : EvIt prog w A env (frHP env h₀ ρ md X hX) iter Vs) (hlen : Ws.length = Vs.length)
    (hb : ∀ i V C, Vs[i]? = some V → Binds prog w A (compEnvC scope cl C env) h₀ target V ρc (ρt i))
    (he : ∀ i W' C, Ws[i]? = some W' → Ev prog w A (compEnvC scope cl C env) (frHP (compEnvC scope cl C env) h₀ (ρt i) md X hX) elt W')
    (hsz : Vs.length ≤ sizeLine := by size_fits)
    (htgt : ∀ it v, letOwnedTupleGo target it v = pure () := by intro _ _; kernel_rfl!) (hs : ∀ x, foldedSetIterable iter env x = pure x := by intro _; kernel_rfl!) :
    Ev prog w A env (frHP env h₀ ρ md X hX) (.ListComp elt [⟨target, iter, [], 0⟩] scope pos) (VList Ws) := by
  intro s av ho hg E Q hq
  rw [eval_ListComp]
  refine wpAny_comprehension_free (use := none) rfl hs K.clos K.kind K.names (hit s av ho hg E _ fun I s' fp P St k hI hIe W hst hfp hfp2 hP => ?_)
  obtain ⟨hF, hXs, hm⟩ := hg
  have hcI : ∀ n, env.cells.lookup n ≠ some I := fun n hc => by
    obtain ⟨v, o, e, _⟩ := hF.cellAt hc; rw [hI] at e; cases e
  have h0I : h₀.get? I = none := by
    obtain ⟨m, F, _, _⟩ := hF
    cases e : h₀.get? I with
    | none => rfl
    | some o => have := F.keep _ _ e; rw [hI] at this; cases this
  have hmI : ¬ md I := fun h => by obtain ⟨o, e⟩ := ho I (hm I h); rw [hI] at e; cases e
  refine comp_core (RR := fun acc C => compPost (model prog w) A E none Q acc C) (av := fun b => av b ∨ b = I) hlen hsz K hX (fun b hb => .inl (hm b hb)) (fun b hb => hb.elim (fun h => ho.up k.kp b h) fun e => by rw [e]; exact hIe _ _ hst)
    ((hF.grow (grow_new hI)).up k.kp) (hX.kp _ _ hXs k.kp) (.inr rfl) hmI h0I hcI W hIe hst hfp hP (fun s v _ E Q _ hq => wpAny_of_eq (htgt _ _) hq) hb he ?_
  intro D C h' tk m' ys hD hC hDC hn hl hits hX' hk
  have hDs : s.heap.get? D = none := by
    cases e : s.heap.get? D with
    | none => rfl
    | some o => have := k.kp _ _ e; rw [hD] at this; cases this
  have kk : Kp s.heap h' := fun b o e => hk b o (by rintro rfl; rw [hI] at e; cases e) (k.kp b o e)
  refine ⟨m', hn, fun h'' hs'' => ?_⟩
  have hCs : s.heap.get? C = none := by
    cases e : s.heap.get? C with
    | none => rfl
    | some o => have := k.kp _ _ e; rw [hC] at this; cases this
  obtain ⟨oC, esC, epC, hoC, hdC, _⟩ := id hn
  have kk' : Kp s.heap h'' := fun b o e => hs''.extBut b o (by rintro rfl; rw [hCs] at e; cases e) (kk b o e)
  have hl' : h''.PlainList D ys := hl.extBut hs''.extBut hDC
  have sq : SqK (fun b => (av b ∨ b = I) ∨ b = D) h' h'' := fun b o _ ⟨xs, n, hd⟩ e => hs''.extBut b o (by rintro rfl; rw [hoC] at e; cases e; rw [hdC] at hd; cases hd) e
  obtain ⟨hk₁, tk₁, rfl, _⟩ := k
  refine hq _ _ ⟨D, ys.toList, rfl, Off.fresh ho hDs, by simpa using hl'.isList, ((hits.up sq).grow fun b hb => .inl (.inl (.inl hb)))⟩ (Kps.of kk')
end
end Mine

end
section
namespace Mine

section
variable {prog : Program} {w : World} {A : Around} {env : Env} {h₀ : Heap} {md : Addr → Prop} {ρ ρc : Locs} {X : Heap → Prop}

theorem FrameIs.conv {av : Addr → Prop} {h : Heap} {x : Str} {V V' : VP} (hF : FrameIs env h₀ ((x, V) :: ρ) av h) (hi : ∀ v, V.P av h v → V'.P av h v) : FrameIs env h₀ ((x, V') :: ρ) av h := by
  obtain ⟨m, F, Vs, C⟩ := hF
  refine ⟨m, F, fun y W hy => ?_, C⟩
  by_cases hyx : y = x
  · subst hyx
    rw [List.lookup_cons_self] at hy
    obtain rfl := Option.some.inj hy
    obtain ⟨v, hv, h1⟩ := Vs y V (by rw [List.lookup_cons_self])
    exact ⟨v, hi v hv, h1⟩
  · rw [List.lookup_cons, show (y == x) = false by simpa using hyx] at hy
    exact Vs y W (by rw [List.lookup_cons, show (y == x) = false by simpa using hyx]; exact hy)

theorem none_of_kp {h h' : Heap} (k : Kp h h') {a : Addr} (ha : h'.get? a = none) : h.get? a = none := by
  cases e : h.get? a with
  | none => rfl
  | some o => have := k _ _ e; rw [ha] at this; cases this

/-- a name bound to a new list, by a display: the list is known by its address -/
theorem assign_list_k {x : Str} {px pos lp : Pos} {elts : List Expr} {Vs : List VP} {hX : OnMd md X} (f : Fx env h₀ md) (ha : ArgsEv prog w A env (frHP env h₀ ρ md X hX) lp elts Vs)
    (hx : env.kindOf x = some .local ∨ (env.kindOf x = some .cell ∧ ∃ c, env.cells.lookup x = some c)) (hsz : Vs.length ≤ sizeLine := by size_fits)
    (hs : swapsWith (.List elts lp) (some (.Name x px)) pos.line env = pure false := by kernel_rfl!)
    {s : Shared} {av : Addr → Prop} (hm : ∀ b, md b → av b) (ho : Off av s.heap) (hF : FrameIs env h₀ ρ av s.heap) (hXs : X s.heap) {E : Value → Shared → Prop} {Q : Flow → Shared → Prop}
    (hq : ∀ D s' vs, s.heap.get? D = none → s'.heap.PlainList D vs.toArray → Items (fun b => av b ∨ b = D) s'.heap vs Vs → FrameIs env h₀ ((x, VRef D) :: ρ) (fun b => av b ∨ b = D) s'.heap → X s'.heap →
      Off (fun b => av b ∨ b = D) s'.heap → Mv env md s s' → Q .next s') : wpAny (model prog w) A (exec (.Assign [.Name x px] (.List elts lp) pos) env) Q E s := by
  refine wpAny_Assign_Name (List_ (ha s av ho ⟨hF, hXs, hm⟩ E _ fun vs s₁ hvs k₁ => wpAny_newObj_type ?_ (by show vs.toArray.size ≤ sizeLine; rw [List.size_toArray, hvs.length]; exact hsz))) hs
  generalize hD : s₁.heap.objs.size = D
  have hD1 : s₁.heap.get? D = none := hD ▸ new_none _
  have hDs : s.heap.get? D = none := none_of_kp k₁.kp hD1
  generalize hob : ({ cls := .type "list", dict := none, data := .seq vs.toArray } : Obj) = ob
  have k₂ : Kps s { s₁ with heap := s₁.heap.push ob } := k₁.trans (Kps.push _ s₁.toks)
  have hDg : (s₁.heap.push ob).get? D = some ob := by subst hob; exact hD ▸ Heap.get?_push_size _ rfl
  have ho' : Off (fun b => av b ∨ b = D) (s₁.heap.push ob) := fun b hb => hb.elim (fun h => (ho.up k₂.kp) b h) fun e => by rw [e]; exact ⟨_, hDg⟩
  have hits : Items (fun b => av b ∨ b = D) (s₁.heap.push ob) vs Vs := (hvs.grow (grow_new hD1)).up (Kps.push ob s₁.toks).sqk
  refine store (s := { s₁ with heap := s₁.heap.push ob }) (V := VRef D) f.kind f.cel f.mdo hX hx ho' ((hF.grow (grow_new hDs)).up k₂.kp) (hX.kp _ _ hXs k₂.kp) rfl fun s₃ hF₃ hX₃ ho₃ mv₃ => ?_
  obtain ⟨h3, t3, rfl, k3⟩ := id mv₃
  obtain ⟨oL, esL, epL, hoL, hdL⟩ := hF.locals
  have hDL : D ≠ env.locals := by rintro rfl; rw [hDs] at hoL; cases hoL
  have hDc : ∀ n, env.cells.lookup n ≠ some D := fun n hc => by obtain ⟨v, o, e, _⟩ := hF.cellAt hc; rw [hDs] at e; cases e
  have hDm : ¬ md D := fun h => by obtain ⟨o, e⟩ := ho D (hm D h); rw [hDs] at e; cases e
  have sq : SqK (fun b => av b ∨ b = D) (s₁.heap.push ob) h3 := fun b o hb ⟨xs, n, hd⟩ e => k3 b o
    (by rintro rfl; have := k₂.kp _ _ hoL; change (s₁.heap.push ob).get? _ = _ at this; rw [this] at e; cases e; rw [hdL] at hd; cases hd)
    (fun n' hc => by obtain ⟨v, o', e', d'⟩ := hF.cellAt hc; have := k₂.kp _ _ e'; change (s₁.heap.push ob).get? _ = _ at this; rw [this] at e; cases e; rw [d'] at hd; cases hd)
    (fun h => hb (.inl (hm b h))) e
  exact hq D _ vs hDs ⟨0, k3 D _ hDL hDc hDm (by subst hob; exact hDg)⟩ (hits.up sq) hF₃ hX₃ ho₃ (k₂.mv.trans mv₃)

/-- a name bound to a comprehension's list -/
theorem assign_comp_k {elt target iter : Expr} {scope : Scope} {cl : List (Str × Addr)} {pos spos py : Pos} {y : Str} {Vs Ws : List VP} {hX : OnMd md X} (ρt : Nat → Locs) (f : Fx env h₀ md) (K : Caps env scope cl ρ ρc)
    (hit : EvIt prog w A env (frHP env h₀ ρ md X hX) iter Vs) (hlen : Ws.length = Vs.length)
    (hb : ∀ i V C, Vs[i]? = some V → Binds prog w A (compEnvC scope cl C env) h₀ target V ρc (ρt i))
    (he : ∀ i W' C, Ws[i]? = some W' → Ev prog w A (compEnvC scope cl C env) (frHP (compEnvC scope cl C env) h₀ (ρt i) md X hX) elt W')
    (hy : env.kindOf y = some .local ∨ (env.kindOf y = some .cell ∧ ∃ c, env.cells.lookup y = some c))
    (hsw : swapsWith (.ListComp elt [⟨target, iter, [], 0⟩] scope pos) (some (.Name y py)) spos.line env = pure true) (hsz : Vs.length ≤ sizeLine)
    (htgt : ∀ (I : Addr) (St : Nat → Heap → Prop), (∀ i h, St i h → ∃ o, h.get? I = some o) → ∀ s v, s.heap.get? I ≠ none → ∀ E (Q : Unit → Shared → Prop), (∃ i, St i s.heap) → Q () s → wpAny (model prog w) A (letOwnedTupleGo target (.ref I) v) Q E s)
    (hs : ∀ x, foldedSetIterable iter env x = pure x)
    {s : Shared} {av : Addr → Prop} (hm : ∀ b, md b → av b) (ho : Off av s.heap) (hF : FrameIs env h₀ ρ av s.heap) (hXs : X s.heap) {E : Value → Shared → Prop} {Q : Flow → Shared → Prop}
    (hq : ∀ D s' vs, s.heap.get? D = none → s'.heap.PlainList D vs.toArray → Items (fun b => av b ∨ b = D) s'.heap vs Ws → FrameIs env h₀ ((y, VRef D) :: ρ) (fun b => av b ∨ b = D) s'.heap → X s'.heap →
      Off (fun b => av b ∨ b = D) s'.heap → Mv env md s s' → Q .next s') :
    wpAny (model prog w) A (exec (.Assign [.Name y py] (.ListComp elt [⟨target, iter, [], 0⟩] scope pos) spos) env) Q E s := by
  rw [exec_Assign_Name_used _ _ _ _ hsw]
  refine wpAny_bind (wpAny_standAt (wpAny_bind ?_))
  show wpAny _ A (do let _ ← comprehension (.ListComp elt [⟨target, iter, [], 0⟩] scope pos) scope env _ (newList []) false (eval iter env) (some (assign (.Name y py) env))) _ _ s
  refine wpAny_bind (wpAny_mono (wpAny_comprehension_free (use := some (assign (.Name y py) env)) (Q := fun _ s' => Q .next s') rfl hs K.clos K.kind K.names
    (hit s av ho ⟨hF, hXs, hm⟩ E _ fun I s' fp P St k hI hIe W hst hfp hfp2 hP => ?_)) (fun _ s' hq => wpAny_pure (wpAny_pure hq)) fun _ _ e => e)
  have hcI : ∀ n, env.cells.lookup n ≠ some I := fun n hc => by
    obtain ⟨v, o, e, _⟩ := hF.cellAt hc; rw [hI] at e; cases e
  have h0I : h₀.get? I = none := by
    obtain ⟨m, F, _, _⟩ := hF
    exact none_of_kp F.keep hI
  have hmI : ¬ md I := fun h => by obtain ⟨o, e⟩ := ho I (hm I h); rw [hI] at e; cases e
  refine comp_core (RR := fun acc C => compPost (model prog w) A E (some (assign (.Name y py) env)) (fun _ s' => Q .next s') acc C) (av := fun b => av b ∨ b = I) hlen hsz K hX (fun b hb => .inl (hm b hb)) (fun b hb => hb.elim (fun h => ho.up k.kp b h) fun e => by rw [e]; exact hIe _ _ hst)
    ((hF.grow (grow_new hI)).up k.kp) (hX.kp _ _ hXs k.kp) (.inr rfl) hmI h0I hcI W hIe hst hfp hP (htgt I St hIe) hb he ?_
  intro D C h' tk m' ys hD hC hDC hn hl hits hX' hk
  have hDs : s.heap.get? D = none := none_of_kp k.kp hD
  have hCs : s.heap.get? C = none := none_of_kp k.kp hC
  have kk : Kp s.heap h' := fun b o e => hk b o (by rintro rfl; rw [hI] at e; cases e) (k.kp b o e)
  obtain ⟨oC, esC, epC, hoC, hdC, _⟩ := id hn
  obtain ⟨hk₁, tk₁, rfl, _⟩ := k
  have hitsD : Items (fun b => av b ∨ b = D) h' ys.toList Ws := hits.grow fun b hb => .inl (hb.elim (fun h => .inl (.inl h)) .inr)
  have hDg : ∃ n, h'.get? D = some { cls := .type "list", data := .seq ys n } := hl
  have ho' : Off (fun b => av b ∨ b = D) h' := fun b hb => hb.elim (fun h => (ho.up kk) b h) fun e => by rw [e]; obtain ⟨n, e⟩ := hDg; exact ⟨_, e⟩
  obtain ⟨oL, esL, epL, hoL, hdL⟩ := hF.locals
  have hDL : D ≠ env.locals := by rintro rfl; rw [hDs] at hoL; cases hoL
  have hDc : ∀ n, env.cells.lookup n ≠ some D := fun n hc => by obtain ⟨v, o, e, _⟩ := hF.cellAt hc; rw [hDs] at e; cases e
  have hDm : ¬ md D := fun h => by obtain ⟨o, e⟩ := ho D (hm D h); rw [hDs] at e; cases e
  have hCL : C ≠ env.locals := by rintro rfl; rw [hCs] at hoL; cases hoL
  have hCc : ∀ n, env.cells.lookup n ≠ some C := fun n hc => by obtain ⟨v, o, e, _⟩ := hF.cellAt hc; rw [hCs] at e; cases e
  have hCm : ¬ md C := fun h => by obtain ⟨o, e⟩ := ho C (hm C h); rw [hCs] at e; cases e
  show wpAny _ A (assign (.Name y py) env (.ref D)) _ _ _
  refine wpAny_assign_Name (store (s := { s with heap := h', toks := tk }) (V := VRef D) f.kind f.cel f.mdo hX hy ho' ((hF.grow (grow_new hDs)).up kk) hX' rfl fun s₃ hF₃ hX₃ ho₃ mv₃ => ?_)
  obtain ⟨h3, t3, rfl, k3⟩ := id mv₃
  obtain ⟨oC', hoC', hdC'⟩ : ∃ o, h3.get? C = some o ∧ o.data = .dict esC epC := ⟨oC, k3 C oC hCL hCc hCm hoC, hdC⟩
  refine ⟨m', hn.at' fun o e => k3 C o hCL hCc hCm e, fun h'' hs'' => ?_⟩
  have hc3 : ∀ b o, b ≠ C → h3.get? b = some o → h''.get? b = some o := fun b o hb e => hs''.extBut b o hb e
  have sq : SqK (fun b => av b ∨ b = D) h' h'' := fun b o hb ⟨xs, n, hd⟩ e => hc3 b o (by rintro rfl; rw [hoC] at e; cases e; rw [hdC] at hd; cases hd) (k3 b o
    (by rintro rfl; rw [kk _ _ hoL] at e; cases e; rw [hdL] at hd; cases hd)
    (fun n' hc => by obtain ⟨v, o', e', d'⟩ := hF.cellAt hc; rw [kk _ _ e'] at e; cases e; rw [d'] at hd; cases hd)
    (fun h => hb (.inl (hm b h))) e)
  have hF4 : FrameIs env h₀ ((y, VRef D) :: ρ) (fun b => av b ∨ b = D) h'' := by
    obtain ⟨m₃, F₃, V₃, C₃⟩ := hF₃
    refine ⟨m₃, ⟨F₃.ns.at' fun o e => hc3 _ o (Ne.symm hCL) e, fun b o e => hc3 b o (by
        rintro rfl
        obtain ⟨_, F, _, _⟩ := hF
        have := F.keep _ _ e
        rw [hCs] at this; cases this) (F₃.keep b o e), F₃.above⟩, fun z V hz => ?_, fun n c hc => ?_⟩
    · obtain ⟨v, hv, h1⟩ := V₃ z V hz
      refine ⟨v, V.up hv fun b o _ ⟨xs, n, hd⟩ e => hc3 b o (by rintro rfl; rw [hoC'] at e; cases e; rw [hdC'] at hd; cases hd) e, ?_⟩
      rcases h1 with h1 | ⟨a1, c, a2, o, a3, a4⟩
      · exact .inl h1
      · exact .inr ⟨a1, c, a2, o, hc3 c o (by rintro rfl; exact hCc z a2) a3, a4⟩
    · obtain ⟨v, o, e, d⟩ := C₃ n c hc
      exact ⟨v, o, hc3 c o (by rintro rfl; exact hCc n hc) e, d⟩
  obtain ⟨nD, hDg⟩ := hDg
  refine hq D { s with heap := h'', toks := t3 } ys.toList hDs ⟨nD, by simpa using hc3 D _ hDC (k3 D _ hDL hDc hDm hDg)⟩ (hitsD.up sq) hF4 (hX _ _ hX₃ fun b o hb e => hc3 b o (by rintro rfl; exact hCm hb) e)
    (fun b hb => ?_) ⟨h'', t3, rfl, fun b o a1 a2 a3 e => hc3 b o (by rintro rfl; rw [hCs] at e; cases e) (k3 b o a1 a2 a3 (kk b o e))⟩
  obtain ⟨o, e⟩ := ho₃ b hb
  by_cases hbC : b = C
  · obtain ⟨o', e'⟩ : ∃ o, s.heap.get? b = some o ∨ b = D := hb.elim (fun h => let ⟨o, e⟩ := ho b h; ⟨o, .inl e⟩) fun h => ⟨oC, .inr h⟩
    rcases e' with e' | e'
    · rw [hbC, hCs] at e'; cases e'
    · exact absurd (e'.symm.trans hbC) hDC
  · exact ⟨o, hc3 b o hbC e⟩

theorem tgt_name {x : Str} {px : Pos} : ∀ (I : Addr) (St : Nat → Heap → Prop), (∀ i h, St i h → ∃ o, h.get? I = some o) → ∀ (s : Shared) v, s.heap.get? I ≠ none → ∀ E (Q : Unit → Shared → Prop), (∃ i, St i s.heap) → Q () s → wpAny (model prog w) A (letOwnedTupleGo (.Name x px) (.ref I) v) Q E s :=
  fun I St _ s v _ E Q _ hq => wpAny_pure hq

/-- the same, the list a value like others -/
theorem ht_assign_comp {elt target iter : Expr} {scope : Scope} {cl : List (Str × Addr)} {pos spos py : Pos} {y : Str} {Vs Ws : List VP} {hX : OnMd md X} (ρt : Nat → Locs) (f : Fx env h₀ md) (K : Caps env scope cl ρ ρc)
    (hit : EvIt prog w A env (frHP env h₀ ρ md X hX) iter Vs) (hlen : Ws.length = Vs.length)
    (hb : ∀ i V C, Vs[i]? = some V → Binds prog w A (compEnvC scope cl C env) h₀ target V ρc (ρt i))
    (he : ∀ i W' C, Ws[i]? = some W' → Ev prog w A (compEnvC scope cl C env) (frHP (compEnvC scope cl C env) h₀ (ρt i) md X hX) elt W')
    (hy : env.kindOf y = some .local ∨ (env.kindOf y = some .cell ∧ ∃ c, env.cells.lookup y = some c))
    (hsw : swapsWith (.ListComp elt [⟨target, iter, [], 0⟩] scope pos) (some (.Name y py)) spos.line env = pure true) (hsz : Vs.length ≤ sizeLine)
    (htgt : ∀ (I : Addr) (St : Nat → Heap → Prop), (∀ i h, St i h → ∃ o, h.get? I = some o) → ∀ s v, s.heap.get? I ≠ none → ∀ E (Q : Unit → Shared → Prop), (∃ i, St i s.heap) → Q () s → wpAny (model prog w) A (letOwnedTupleGo target (.ref I) v) Q E s)
    (hs : ∀ x, foldedSetIterable iter env x = pure x := by intro _; kernel_rfl!) :
    HT prog w A env h₀ md ρ X (exec (.Assign [.Name y py] (.ListComp elt [⟨target, iter, [], 0⟩] scope pos) spos) env) ((y, VList Ws) :: ρ) X :=
  fun s av hm ho hF hXs E Q hq => assign_comp_k ρt f K hit hlen hb he hy hsw hsz htgt hs hm ho hF hXs fun D s' vs hD hl hits hF' hX' ho' mv =>
    hq s' ((hF'.grow fun b hb => .inl (.inl hb)).conv fun v hv => ⟨D, vs, hv, Off.fresh ho hD, hl.isList, hits.grow fun b hb => .inl (.inl hb)⟩) hX' (fun b hb => ho' b (.inl hb)) mv
end
end Mine

end
section
namespace Mine

/-- a def of the text stands at f -/
def FnAt (d : DefItem) (h : Heap) (f : Addr) : Prop := ∃ c' o pm doc, h.get? f = some o ∧ o.data = .func (docDef d.name d.params d.body d.scope pm (.ref c') doc) ∧ h.CodeRec (.ref c') d.name
def GlobAt (defs : List DefItem) (names : List Str) (h : Heap) : Prop := ∃ N mg mb consts objs, Glob N mg mb defs consts objs names h
theorem GlobAt.keeps {defs : List DefItem} {names : List Str} {h h' : Heap} (x : GlobAt defs names h) (k : Kp h h') : GlobAt defs names h' := let ⟨N, mg, mb, c, o, G⟩ := x; ⟨N, mg, mb, c, o, G.keeps k⟩
/-- what a call of the def gives back -/
def CallOk (prog : Program) (w : World) (A : Around) (defs : List DefItem) (names : List Str) (d : DefItem) (Vs : List VP) (V : VP) : Prop :=
  ∀ (s : Shared) (av : Addr → Prop) (f : Addr) (vs : List Value), Off av s.heap → FnAt d s.heap f → GlobAt defs names s.heap → Items av s.heap vs Vs → Op prog w A (call (.ref f) vs) s (V.P av)

/-- the statements end in a return of a V -/
def HR (prog : Program) (w : World) (A : Around) (env : Env) (h₀ : Heap) (md : Addr → Prop) (ρ : Locs) (X : Heap → Prop) (t : Sem Flow) (V : VP) : Prop :=
  ∀ (s : Shared) (av : Addr → Prop), (∀ b, md b → av b) → Off av s.heap → FrameIs env h₀ ρ av s.heap → X s.heap → ∀ (E : Value → Shared → Prop) (Q : Flow → Shared → Prop),
    (∀ v s', V.P av s'.heap v → Kp h₀ s'.heap → Mv env md s s' → Q (.ret v) s') → wpAny (model prog w) A t Q E s

theorem FrameIs.keep {env : Env} {h₀ : Heap} {ρ : Locs} {av : Addr → Prop} {h : Heap} (hF : FrameIs env h₀ ρ av h) : Kp h₀ h := by obtain ⟨m, F, _, _⟩ := hF; exact F.keep

section
variable {prog : Program} {w : World} {A : Around} {env : Env} {h₀ : Heap} {md : Addr → Prop} {ρ ρ₁ : Locs} {X X₁ : Heap → Prop} {V : VP} {defs : List DefItem} {names : List Str}

theorem hr_cons {st : Stmt} {rest : List Stmt} (h₁ : HT prog w A env h₀ md ρ X (exec st env) ρ₁ X₁) (h₂ : HR prog w A env h₀ md ρ₁ X₁ (execs rest env) V) : HR prog w A env h₀ md ρ X (execs (st :: rest) env) V :=
  fun s av hm ho hF hX E Q hq => wpAny_execs_cons (h₁ s av hm ho hF hX E _ fun s' hF' hX' ho' k => h₂ s' av hm ho' hF' hX' E Q fun v s'' hv hk k' => hq v s'' hv hk (k.trans k'))
theorem hr_return {e : Expr} {pos : Pos} {rest : List Stmt} (hX : OnMd md X) (he : Ev prog w A env (frHP env h₀ ρ md X hX) e V) : HR prog w A env h₀ md ρ X (execs (.Return (some e) pos :: rest) env) V :=
  fun s av hm ho hF hXs E Q hq => wpAny_execs_cons (wpAny_Return_some (he s av ho ⟨hF, hXs, hm⟩ E _ fun v s₁ hv k₁ => hq v s₁ hv (hF.up k₁.kp).keep k₁.mv))
theorem hr_if {t : Expr} {body orelse rest : List Stmt} {pos : Pos} {c : Bool} (hX : OnMd md X) (ht : Tst prog w A env (frHP env h₀ ρ md X hX) t c)
    (h1 : c = true → HR prog w A env h₀ md ρ X (execs body env) V) (h2 : c = false → HR prog w A env h₀ md ρ X (execs orelse env) V) : HR prog w A env h₀ md ρ X (execs (.If t body orelse pos :: rest) env) V :=
  fun s av hm ho hF hXs E Q hq => wpAny_execs_cons (wpAny_If (ht s av ho ⟨hF, hXs, hm⟩ E _ fun b s₁ hb k₁ => by
    subst hb
    cases b with
    | true => exact h1 rfl s₁ av hm (ho.up k₁.kp) (hF.up k₁.kp) (hX.kp _ _ hXs k₁.kp) E _ fun v s₂ hv hk k₂ => hq v s₂ hv hk (k₁.mv.trans k₂)
    | false => exact h2 rfl s₁ av hm (ho.up k₁.kp) (hF.up k₁.kp) (hX.kp _ _ hXs k₁.kp) E _ fun v s₂ hv hk k₂ => hq v s₂ hv hk (k₁.mv.trans k₂)))

/-- a def of the text by its name -/
theorem ev_callD {d : DefItem} {np pos : Pos} {e : Expr} {rest : List Expr} {Vs : List VP} {hX : OnMd md X} (C : Cx A env h₀ defs names) (hd : d ∈ defs) (hnd : d.params.defaults = []) (hx : env.kindOf d.name = some .globalImplicit)
    (ha : ArgsEv prog w A env (frHP env h₀ ρ md X hX) pos (e :: rest) Vs) (hc : CallOk prog w A defs names d Vs V)
    (he : starEach (e :: rest) env = (false, eval e env) :: starEach rest env := by kernel_rfl!) (hdb : (d.name == ("__debug__" : Str)) = false := by decide) :
    Ev prog w A env (frHP env h₀ ρ md X hX) (.Call (.Name d.name np) (e :: rest) [] pos) V := by
  intro s av ho hg E Q hq
  obtain ⟨N, mg, mb, consts, objs, GG⟩ := C.glob
  have G' := GG.keeps hg.1.keep
  obtain ⟨f, c', o, pm, doc, _, _, h3, h4, h5, h6⟩ := (G'.made d hd).plain hnd
  refine Call_ (Name_function_global C.kind hx (loadGlobal_global (C.globals ▸ G'.g) h3 ?_) hdb)
  refine callWith_def (o := o) h5 (ha s av ho hg E _ fun vs s₁ hvs k₁ => ⟨k₁.kp _ _ h4, ?_⟩) he
  exact hc s₁ av f vs (ho.up k₁.kp) ⟨c', o, pm, doc, k₁.kp _ _ h4, h5, h6.keeps k₁.kp⟩ ⟨N, mg, mb, consts, objs, G'.keeps k₁.kp⟩ hvs E Q fun y s₂ hy k₂ => hq y s₂ hy (k₁.trans k₂)

theorem frame_of {name : Str} {scope : Scope} {L a : Addr} {cd : Value} {h : Heap} {m : Str → Option Value} {av : Addr → Prop} (F : Fr h₀ L h m) (hρ : ∀ x V, ρ.lookup x = some V → ∃ v, V.P av h v ∧ (envOf name scope L a cd).kindOf x = some .local ∧ m x = some v) :
    FrameIs (envOf name scope L a cd) h₀ ρ av h := ⟨m, F, fun x V hx => let ⟨v, hv, hl, hm⟩ := hρ x V hx; ⟨v, hv, .inl ⟨hl, hm⟩⟩, fun n c hc => by simp [envOf] at hc⟩
theorem celOk_of {name : Str} {scope : Scope} {L a : Addr} {cd : Value} : CelOk (envOf name scope L a cd) h₀ := ⟨fun n n' c hc => by simp [envOf] at hc, fun n c hc => by simp [envOf] at hc, fun n c hc => by simp [envOf] at hc⟩
theorem fx_of {name : Str} {scope : Scope} {L a : Addr} {cd : Value} (hk : scope.kind = .function) : Fx (envOf name scope L a cd) h₀ noMd := ⟨hk, celOk_of, mdOk_none⟩

/-- a def of one parameter -/
theorem callOk1 {d : DefItem} {p : Str} {V₁ : VP} (hroom : A.depth < recursionLimit) (hh : A.handled = none) (hbind : ∀ pm cd doc v, bindArgs (docDef d.name d.params d.body d.scope pm cd doc) ⟨[v], []⟩ = pure [(p, v)])
    (hloc : d.scope.names.lookup p = some .local) (hcell : ∀ x ∈ d.scope.names, x.2 ≠ .cell) (hk : d.scope.kind = .function) (hco : d.scope.isCoroutine = false) (hgen : d.scope.isGenerator = false)
    (hbody : ∀ L f cd h₀, Cx (A.deeper (envOf d.name d.scope L f cd)) (envOf d.name d.scope L f cd) h₀ defs names →
      HR prog w (A.deeper (envOf d.name d.scope L f cd)) (envOf d.name d.scope L f cd) h₀ noMd [(p, V₁)] noX (execs d.body (envOf d.name d.scope L f cd)) V) : CallOk prog w A defs names d [V₁] V := by
  intro s av f vs ho hf hG hvs E Q hq
  obtain ⟨c', o, pm, doc, h1, h2, h3⟩ := hf
  cases hvs with | cons hv r => cases r with | nil =>
  rename_i v
  obtain ⟨N, mg, mb, consts, objs, G⟩ := hG
  refine wpAny_call (call_plain_ret hroom h1 h2 G.nolimit h3 (hbind _ _ _ _) (by simpa using hloc) (fun h₁ F => ?_) hco hgen hk hcell)
  have k : Kp s.heap h₁ := F.keep
  refine hbody _ _ _ _ ⟨hk, rfl, rfl, hh, ⟨N, mg, mb, consts, objs, G⟩⟩ { s with heap := h₁, toks := _ } av (fun _ h => h.elim) (ho.up k) (frame_of F fun x W hx => ?_) trivial _ _ fun v' s' hv' hk' mv => ?_
  · by_cases hxp : x = p
    · subst hxp
      rw [List.lookup_cons_self] at hx
      obtain rfl := Option.some.inj hx
      exact ⟨v, V₁.up hv (Kp.sqk k), hloc, by simp⟩
    · rw [List.lookup_cons, show (x == p) = false by simpa using hxp] at hx; simp at hx
  · obtain ⟨h2, t2, rfl, _⟩ := mv
    exact hq v' _ hv' (Kps.of hk')
/-- a def of two parameters -/
theorem callOk2 {d : DefItem} {p q : Str} {V₁ V₂ : VP} (hpq : p ≠ q) (hroom : A.depth < recursionLimit) (hh : A.handled = none) (hbind : ∀ pm cd doc v u, bindArgs (docDef d.name d.params d.body d.scope pm cd doc) ⟨[v, u], []⟩ = pure [(p, v), (q, u)])
    (hloc : d.scope.names.lookup p = some .local) (hloc' : d.scope.names.lookup q = some .local) (hcell : ∀ x ∈ d.scope.names, x.2 ≠ .cell) (hk : d.scope.kind = .function) (hco : d.scope.isCoroutine = false) (hgen : d.scope.isGenerator = false)
    (hbody : ∀ L f cd h₀, Cx (A.deeper (envOf d.name d.scope L f cd)) (envOf d.name d.scope L f cd) h₀ defs names →
      HR prog w (A.deeper (envOf d.name d.scope L f cd)) (envOf d.name d.scope L f cd) h₀ noMd [(p, V₁), (q, V₂)] noX (execs d.body (envOf d.name d.scope L f cd)) V) : CallOk prog w A defs names d [V₁, V₂] V := by
  intro s av f vs ho hf hG hvs E Q hq
  obtain ⟨c', o, pm, doc, h1, h2, h3⟩ := hf
  cases hvs with | cons hv r => cases r with | cons hu r => cases r with | nil =>
  rename_i v u
  obtain ⟨N, mg, mb, consts, objs, G⟩ := hG
  refine wpAny_call (call_plain_ret hroom h1 h2 G.nolimit h3 (hbind _ _ _ _ _) (by intro x hx; simp at hx; rcases hx with rfl | rfl <;> assumption) (fun h₁ F => ?_) hco hgen hk hcell)
  have k : Kp s.heap h₁ := F.keep
  refine hbody _ _ _ _ ⟨hk, rfl, rfl, hh, ⟨N, mg, mb, consts, objs, G⟩⟩ { s with heap := h₁, toks := _ } av (fun _ h => h.elim) (ho.up k) (frame_of F fun x W hx => ?_) trivial _ _ fun v' s' hv' hk' mv => ?_
  · by_cases hxp : x = p
    · subst hxp
      rw [List.lookup_cons_self] at hx
      obtain rfl := Option.some.inj hx
      exact ⟨v, V₁.up hv (Kp.sqk k), hloc, by simp [List.lookup_cons, show (x == q) = false by simpa using hpq]⟩
    · rw [List.lookup_cons, show (x == p) = false by simpa using hxp] at hx
      by_cases hxq : x = q
      · subst hxq
        rw [List.lookup_cons_self] at hx
        obtain rfl := Option.some.inj hx
        exact ⟨u, V₂.up hu (Kp.sqk k), hloc', by simp⟩
      · rw [List.lookup_cons, show (x == q) = false by simpa using hxq] at hx; simp at hx
  · obtain ⟨h2, t2, rfl, _⟩ := mv
    exact hq v' _ hv' (Kps.of hk')
end
end Mine

end
section
namespace Mine

section
variable {prog : Program} {w : World} {A : Around} {s : Shared} {av : Addr → Prop}

-- items
theorem op_itemL {value slice : Expr} {Vs : List VP} {V : VP} {a b : Value} {k : Int} (ha : (VList Vs).P av s.heap a) (hb : (VInt k).P av s.heap b) (h0 : 0 ≤ k) (hk : k < 2 ^ 63) (hV : Vs[k.toNat]? = some V)
    (hs : ∀ o i, subscripted slice false o i = operate [o, i] (getItem o i)) : Op prog w A (subscriptTail value slice a b) s (V.P av) := by
  obtain ⟨l, vs, rfl, _, hl, hi⟩ := ha
  obtain ⟨t, rfl⟩ := hb
  obtain ⟨v, hv, hp⟩ := Paired.get hi hV
  exact fun E Q hq => tail_any hl.typeIs slot_list_getitem.lookup (wpAny_getItem_list hl h0 hk (by simpa using hv) (hq _ _ hp (Kps.refl _))) (hs _ _)
theorem op_itemLneg {value slice : Expr} {Vs : List VP} {V : VP} {a b : Value} {k : Int} (ha : (VList Vs).P av s.heap a) (hb : (VInt k).P av s.heap b) (h0 : k < 0) (h1 : -(Vs.length : Int) ≤ k) (hk : -(2 ^ 63) ≤ k) (hV : Vs[(k + Vs.length).toNat]? = some V)
    (hs : ∀ o i, subscripted slice false o i = operate [o, i] (getItem o i)) : Op prog w A (subscriptTail value slice a b) s (V.P av) := by
  obtain ⟨l, vs, rfl, _, hl, hi⟩ := ha
  obtain ⟨t, rfl⟩ := hb
  obtain ⟨v, hv, hp⟩ := Paired.get hi hV
  have e : vs.toArray.size = Vs.length := by rw [List.size_toArray]; exact hi.length
  exact fun E Q hq => tail_any hl.typeIs slot_list_getitem.lookup (wpAny_getItem_list_neg (x := v) hl h0 (by rw [e]; exact h1) hk (by rw [e]; simpa using hv) (hq _ _ hp (Kps.refl _))) (hs _ _)
theorem op_itemT {value slice : Expr} {Vs : List VP} {V : VP} {a b : Value} {k : Int} (ha : (VTup Vs).P av s.heap a) (hb : (VInt k).P av s.heap b) (h0 : 0 ≤ k) (hk : k < 2 ^ 63) (hV : Vs[k.toNat]? = some V)
    (hs : ∀ o i, subscripted slice false o i = operate [o, i] (getItem o i)) : Op prog w A (subscriptTail value slice a b) s (V.P av) := by
  obtain ⟨l, vs, rfl, _, hl, hi⟩ := ha
  obtain ⟨t, rfl⟩ := hb
  obtain ⟨v, hv, hp⟩ := Paired.get hi hV
  have hlt : k.toNat < vs.length := by
    rcases Nat.lt_or_ge k.toNat vs.length with h | h
    · exact h
    · rw [List.getElem?_eq_none h] at hv; cases hv
  exact fun E Q hq => item_tupleT hl (by omega) hk (seqIndex_of h0 (by omega)) hv (hq _ _ hp (Kps.refl _)) (hs _ _)
/-- the letter at a place -/
theorem op_itemS {value slice : Expr} {x : Str} {a b : Value} {k : Int} {c : Nat} (ha : (VStr x).P av s.heap a) (hb : (VInt k).P av s.heap b) (hk : fitsSsize k = true) (hc : Txt.charAt x k = some c)
    (hs : ∀ o i, subscripted slice false o i = operate [o, i] (getItem o i)) : Op prog w A (subscriptTail value slice a b) s ((VStr ⟨#[c]⟩).P av) := by
  obtain ⟨t, rfl⟩ := ha
  obtain ⟨u, rfl⟩ := hb
  exact fun E Q hq => tail_any (typeIs_str _ _ _) PySem.F.slot_str_getitem.lookup (SB.getItem hk (by rw [hc]; rfl) (hq _ _ ⟨_, by unfold Txt.item; rw [hc]; rfl⟩ (Kps.tok _))) (hs _ _)

-- texts
theorem op_mulSI {x : Str} {n : Int} {a b : Value} (hok : MulOk x n) (ha : (VStr x).P av s.heap a) (hb : (VInt n).P av s.heap b) : Op prog w A (binaryOp .Mult a b) s ((VStr (Txt.mul x n)).P av) := by
  obtain ⟨t, rfl⟩ := ha; obtain ⟨u, rfl⟩ := hb
  exact fun E Q hq => SB.mul hok fun t' k => hq _ _ ⟨_, rfl⟩ (Kps.tok _)
theorem op_mulIS {x : Str} {n : Int} {a b : Value} (hok : MulOk x n) (ha : (VInt n).P av s.heap a) (hb : (VStr x).P av s.heap b) : Op prog w A (binaryOp .Mult a b) s ((VStr (Txt.mul x n)).P av) := by
  obtain ⟨u, rfl⟩ := ha; obtain ⟨t, rfl⟩ := hb
  intro E Q hq
  have h : ∀ t' k, Q (.str (Txt.mul x n) t') { s with toks := k } := fun t' k => hq _ _ ⟨_, rfl⟩ (Kps.tok _)
  have post : (if n < 1 then Made.str Str.empty else if (n == 1 || x.length == 0) = true then Made.val (.str x t) else Made.str ⟨(List.replicate n.toNat x.cps).foldl (· ++ ·) #[]⟩).post Q s := by
    unfold Txt.mul at h
    by_cases h1 : n < 1
    · rw [if_pos h1]; have h' := h s.toks (s.toks + 1); rw [if_pos h1] at h'; exact ⟨by decide, h'⟩
    · rw [if_neg h1]
      refine post_val_or_made (fun hc => fits_reps (hok.2.2 h1 (by simpa using hc))) fun t' k => ?_
      have h' := h t' k; rw [if_neg h1] at h'; exact h'
  exact lm_binaryOp_repeat_right (T := "str") (U := "int") (by decide) (fun s' => typeIs_int s' n u) (typeIs_str s x t) PySem.F.fills_int_mul noFill_str_mul PySem.F.slot_int_mul lm_noRepeat_int repeat_str PySem.F.slot_int_index.lookup
    (call_gives PySem.F.slot_int_mul (typeIs_int s n u) PySem.F.entry_int_mul (PySem.F.args_int_mul_2 _ _) (AutoIntG3.int___mul___int_str_0 n u x t)
      ⟨rfl, typeIs_str s x t, call_gives PySem.F.slot_str_mul (typeIs_str s x t) PySem.F.entry_str_mul (PySem.F.args_str_mul_2 _ _) (gives_str_mul x n t u hok.1 hok.2.1 hok.2.2) post⟩)

-- lists
theorem op_addL {Vs Ws : List VP} {a b : Value} (hsz : Vs.length + Ws.length ≤ sizeLine) (ho : Off av s.heap) (ha : (VList Vs).P av s.heap a) (hb : (VList Ws).P av s.heap b) : Op prog w A (binaryOp .Add a b) s ((VList (Vs ++ Ws)).P av) := by
  obtain ⟨l, vs, rfl, _, hl, hi⟩ := ha
  obtain ⟨m, us, rfl, _, hm, hj⟩ := hb
  intro E Q hq
  obtain ⟨⟨cls, dd, data, sl⟩, h1, hc, n, hd⟩ := id hl
  obtain ⟨⟨cls2, dd2, data2, sl2⟩, h2, hc2, n2, hd2⟩ := id hm
  simp only at hc hd hc2 hd2
  subst hc hd hc2 hd2
  have e : vs.toArray ++ us.toArray = (vs ++ us).toArray := by simp
  have hz : vs.toArray.size + us.toArray.size ≤ sizeLine := by rw [List.size_toArray, List.size_toArray, hi.length, hj.length]; exact hsz
  refine concat_meets ⟨_, h1, rfl⟩ ⟨_, h2, rfl⟩ noFill_list_add seq_list_add PySem.F.slot_list_add PySem.F.entry_list_add (PySem.F.args_list_add_2 _ _) (list_addW l m vs.toArray us.toArray n n2 dd dd2 sl sl2 hz) ⟨h1, h2, ?_⟩
  rw [e]
  exact hq _ _ ⟨s.heap.objs.size, vs ++ us, rfl, ho.new, ⟨_, Heap.get?_push_size _ rfl, rfl, 0, rfl⟩, (Paired.append hi hj |> fun (x : Items av s.heap (vs ++ us) (Vs ++ Ws)) => x.up (Kps.push _ s.toks).sqk)⟩ (Kps.push _ _)

theorem strsAre_of {h : Heap} : ∀ {vs : List Value} {xs : List Str}, Items av h vs (xs.map VStr) → StrsAre vs xs
  | _, [], .nil => .nil
  | _, x :: xs, .cons hv r => by obtain ⟨t, rfl⟩ := hv; exact .cons _ _ (strsAre_of r)
theorem strs_of {h : Heap} : ∀ {vs : List Value} {xs : List Str}, StrsAre vs xs → Items av h vs (xs.map VStr)
  | _, _, .nil => .nil
  | _, _, .cons x t r => .cons ⟨t, rfl⟩ (strs_of r)
theorem strValues_of {h : Heap} : ∀ {vs : List Value} {xs : List Str}, Items av h vs (xs.map VStr) → ∃ l : List (Str × Tok), vs = strValues l ∧ l.map (·.1) = xs
  | _, [], .nil => ⟨[], rfl, rfl⟩
  | _, x :: xs, .cons hv r => by
    obtain ⟨t, rfl⟩ := hv
    obtain ⟨l, rfl, e⟩ := strValues_of r
    exact ⟨(x, t) :: l, rfl, by simp [e]⟩
theorem items_strValues {h : Heap} : ∀ (l : List (Str × Tok)), Items av h (strValues l) ((l.map (·.1)).map VStr)
  | [] => .nil
  | (x, t) :: l => .cons ⟨t, rfl⟩ (items_strValues l)
theorem intsAre_of {h : Heap} : ∀ {vs : List Value} {xs : List Int}, Items av h vs (xs.map VInt) → IntsAre vs xs
  | _, [], .nil => .nil
  | _, x :: xs, .cons hv r => by obtain ⟨t, rfl⟩ := hv; exact .cons _ _ (intsAre_of r)
theorem ints_of {h : Heap} : ∀ {vs : List Value} {xs : List Int}, IntsAre vs xs → Items av h vs (xs.map VInt)
  | _, _, .nil => .nil
  | _, _, .cons x t r => .cons ⟨t, rfl⟩ (ints_of r)

/-- sorted, of texts: ys is the rising order of xs -/
theorem op_sorted {xs ys : List Str} {vs : List Value} (hx : Items av s.heap vs [VList (xs.map VStr)]) (h64 : xs.length < 64) (ho : Off av s.heap) (hys : ∀ ys', ys'.Perm xs → sortedS ys' = true → ys' = ys) :
    Op prog w A (call (.builtin "sorted") vs) s ((VList (ys.map VStr)).P av) := by
  cases hx with | cons hx r => cases r with | nil =>
  obtain ⟨l, us, rfl, _, hl, hi⟩ := hx
  have hlen : us.length < 64 := by rw [hi.length, List.length_map]; exact h64
  intro E Q hq
  refine sorted_strs hl (strsAre_of hi) hlen fun out ss' h1 h2 h3 => ?_
  obtain rfl := hys ss' h2 h3
  obtain ⟨e, he⟩ := sortedAll_at s.heap us out
  have k : Kp s.heap (sortedAll s.heap us out) := fun _ _ => sortedAll_old
  have hn : s.heap.get? (s.heap.objs.size + 1) = none := by
    cases e : s.heap.get? (s.heap.objs.size + 1) with
    | none => rfl
    | some o => exact absurd (Heap.lt_size e) (Nat.not_lt.mpr (Nat.le_succ _))
  refine hq _ _ ⟨s.heap.objs.size + 1, out.toList, rfl, Off.fresh ho hn, ?_, strs_of h1⟩ (Kps.of k)
  exact ⟨_, he, rfl, e, rfl⟩

/-- not in a list of texts -/
theorem op_notinL {x : Str} {xs : List Str} {a b : Value} (ha : (VStr x).P av s.heap a) (hb : (VList (xs.map VStr)).P av s.heap b) : Op prog w A (compareOp .NotIn a b) s ((VBool (!xs.any fun y => y.cps.toList == x.cps.toList)).P av) := by
  obtain ⟨t, rfl⟩ := ha
  obtain ⟨l, us, rfl, _, hl, hi⟩ := hb
  obtain ⟨l', rfl, hl'⟩ := strValues_of hi
  intro E Q hq
  refine SeqInW.notIn_listW (fun v => match v with | .str y _ => y.cps.toList == x.cps.toList | _ => false) (fun y hy => ?_) hl ?_
  · have hy' : y ∈ strValues l' := by simpa using hy
    simp only [strValues, List.mem_map] at hy'
    obtain ⟨p, _, rfl⟩ := hy'
    exact SeqRoads2.EqGives.str _ _ _ _
  · refine hq _ _ ?_ (Kps.refl _)
    show Value.bool _ = Value.bool _
    rw [← hl', ← Array.any_toList]
    simp [strValues, List.any_map, Function.comp_def]

theorem preSum_ints {val : Nat → Int} : ∀ (xs : List Int), (∀ i x, xs[i]? = some x → val i = x) → ∀ n, n ≤ xs.length → preSum val n = (xs.take n).sum
  | xs, h, 0, _ => by simp [preSum]
  | xs, h, n + 1, hn => by
    obtain ⟨x, hx⟩ := get_of_lt (l := xs) (i := n) (by omega)
    rw [preSum, preSum_ints xs h n (by omega), h n x hx, List.take_add_one, hx]
    simp
/-- sum, of ints -/
theorem op_sum {xs : List Int} {vs : List Value} (hh : A.handled = none) (hx : Items av s.heap vs [VList (xs.map VInt)]) : Op prog w A (call (.builtin "sum") vs) s ((VInt xs.sum).P av) := by
  cases hx with | cons hx r => cases r with | nil =>
  obtain ⟨l, us, rfl, _, hl, hi⟩ := hx
  intro E Q hq
  have hlt : l < s.heap.objs.size := by obtain ⟨o, e, _⟩ := id hl; exact Heap.lt_size e
  have W := Walks.list (prog := prog) (w := w) (A := A.in1) hh s.heap.objs.size l (Nat.ne_of_lt hlt) us.toArray
  have hlen : us.toArray.size = xs.length := by rw [List.size_toArray, hi.length, List.length_map]
  refine call_sum_walkAnyS (wpAny_pyIter_list hl ⟨s.heap.objs.size, _, _, _, _, _, _, (fun i => xs.getD i 0), rfl, W.toS, ⟨⟨_, Heap.get?_push_size _ rfl, rfl, rfl⟩, hl.push _⟩, ?_, ?_, ?_⟩)
  · intro b hb
    show b < (s.heap.push _).objs.size
    rw [Heap.size_push]
    rcases List.mem_cons.mp hb with rfl | hb
    · exact Nat.lt_succ_self _
    · rw [List.mem_singleton.mp hb]; exact Nat.lt_succ_of_lt hlt
  · intro i v hP
    obtain ⟨V, hV, hp⟩ := Paired.get' hi (i := i) (a := v) (by simpa using hP)
    rw [List.getElem?_map] at hV
    cases hx : xs[i]? with
    | none => rw [hx] at hV; cases hV
    | some x =>
      rw [hx] at hV; cases hV
      obtain ⟨t, rfl⟩ := hp
      exact ⟨t, by simp [List.getD, hx]⟩
  · rintro s' t' ⟨m1, m2, m3, m4, m5⟩
    have e : preSum (fun i => xs.getD i 0) us.toArray.size = xs.sum := by
      rw [hlen, preSum_ints xs (fun i x hx => by simp [List.getD, hx]) _ (Nat.le_refl _), List.take_length]
    have hk : Kps s s' := by
      refine ⟨s'.heap, s'.toks, ?_, fun b o e => m1 b o (fun hm => by rw [List.mem_singleton.mp hm] at e; exact absurd (Heap.lt_size e) (Nat.lt_irrefl _)) (Heap.get?_push_of_some _ e)⟩
      obtain ⟨a1, a2, a3, a4, a5⟩ := s'
      obtain ⟨b1, b2, b3, b4, b5⟩ := s
      simp only at m2 m3 m4
      subst m2 m3 m4
      rfl
    exact hq _ _ ⟨t', by rw [e]⟩ hk
end
end Mine

end
section
namespace Mine

def PartV : Option Int → Value → Prop
  | none, v => v = .none
  | some i, v => ∃ t, v = .int i t
theorem PartV.is {k : Option Int} {v : Value} (h : PartV k v) : IsPart v k := by
  cases k with
  | none => obtain rfl : v = .none := h; exact .none
  | some i => obtain ⟨t, rfl⟩ := h; exact .int i t
theorem PartV.at {k : Option Int} {v : Value} (h : PartV k v) : ∃ l : Option (Int × Tok), v = partValue l ∧ l.map (·.1) = k := by
  cases k with
  | none => obtain rfl : v = .none := h; exact ⟨none, rfl, rfl⟩
  | some i => obtain ⟨t, rfl⟩ := h; exact ⟨some (i, t), rfl, rfl⟩

/-- the picked items of a slice -/
def pickL {α : Type} (xs : List α) (lo hi st : Option Int) : List α :=
  (sliceRange (sliceBounds lo hi st xs.length).1 (sliceBounds lo hi st xs.length).2.1 (sliceBounds lo hi st xs.length).2.2).filterMap (xs[·]?)
theorem pickL_map {α β : Type} (f : α → β) (xs : List α) (lo hi st : Option Int) : pickL (xs.map f) lo hi st = (pickL xs lo hi st).map f := by
  unfold pickL
  rw [List.length_map, List.map_filterMap]
  congr 1
  funext i
  simp
theorem Paired.pick {α β : Type} {F : α → β → Prop} {l : List α} {m : List β} (h : Paired F l m) : ∀ idx : List Nat, Paired F (idx.filterMap (l[·]?)) (idx.filterMap (m[·]?))
  | [] => .nil
  | i :: r => by
    have ih := Paired.pick h r
    cases hb : m[i]? with
    | none =>
      have ha : l[i]? = none := by
        rw [List.getElem?_eq_none_iff] at hb ⊢
        rw [h.length]; exact hb
      simpa [List.filterMap_cons, ha, hb] using ih
    | some b =>
      obtain ⟨a, ha, hF⟩ := Paired.get h hb
      simpa [List.filterMap_cons, ha, hb] using Paired.cons hF ih
theorem slicePick_toList (vs : List Value) (lo hi st : Option Int) : (slicePick vs.toArray lo hi st) = (pickL vs lo hi st).toArray := by
  unfold slicePick pickL
  simp
theorem Items.pick {av : Addr → Prop} {h : Heap} {vs : List Value} {Vs : List VP} (x : Items av h vs Vs) (lo hi st : Option Int) : Items av h (pickL vs lo hi st) (pickL Vs lo hi st) := by
  unfold pickL
  rw [x.length]
  exact Paired.pick x _

theorem charAt_nat {x : Str} {i : Nat} {c : Nat} (h : x.cps.toList[i]? = some c) : Txt.charAt x (i : Int) = some c := by
  have hlt : i < x.cps.size := by
    rcases Nat.lt_or_ge i x.cps.toList.length with h' | h'
    · simpa using h'
    · rw [List.getElem?_eq_none h'] at h; cases h
  unfold Txt.charAt
  rw [seqIndex_of (by omega) (by show ((i : Nat) : Int) < (x.cps.size : Nat); omega)]
  simpa using h

section
variable {prog : Program} {w : World} {A : Around} {env : Env} {G : HP}

abbrev EvPart (prog : Program) (w : World) (A : Around) (env : Env) (G : HP) (e : Option Expr) (k : Option Int) : Prop := Tr prog w A G (evalPart e env) (fun _ _ v => PartV k v)
theorem ep_none : EvPart prog w A env G none none := fun s av _ _ E Q hq => evalPart_none_step (hq _ _ rfl (Kps.refl _))
theorem ep_some {e : Expr} {i : Int} (h : Ev prog w A env G e (VInt i)) : EvPart prog w A env G (some e) (some i) := fun s av ho hg E Q hq => evalPart_some_step (h s av ho hg E Q fun y s' hy k => hq y s' hy k)

theorem ev_slice {value : Expr} {lo hi st : Option Expr} {p pos : Pos} {V₁ V : VP} {kl ku ks : Option Int} (h₁ : Ev prog w A env G value V₁) (hl : EvPart prog w A env G lo kl) (hu : EvPart prog w A env G hi ku) (hs : EvPart prog w A env G st ks)
    (hop : ∀ a vl vu vs sl (s : Shared) av, Off av s.heap → G.P av s.heap → V₁.P av s.heap a → PartV kl vl → PartV ku vu → PartV ks vs → s.heap.IsSliceOf sl vl vu vs → Op prog w A (subscriptTail value (.Slice lo hi st p) a (.ref sl)) s (V.P av)) :
    Ev prog w A env G (.Subscript value (.Slice lo hi st p) pos) V := by
  intro s av ho hg E Q hq
  refine Subscript_ (h₁ s av ho hg E _ fun a s₁ ha k₁ => wpAny_Slice (hl s₁ av (ho.up k₁.kp) (G.up hg k₁.kp) E _ fun vl s₂ hvl k₂ => hu s₂ av (ho.up (k₁.trans k₂).kp) (G.up hg (k₁.trans k₂).kp) E _ fun vu s₃ hvu k₃ =>
    hs s₃ av (ho.up ((k₁.trans k₂).trans k₃).kp) (G.up hg ((k₁.trans k₂).trans k₃).kp) E _ fun vs s₄ hvs k₄ => ?_))
  have k := ((k₁.trans k₂).trans k₃).trans k₄
  have k' : Kps s { s₄ with heap := s₄.heap.push { cls := .type "slice", data := .fields #[vl, vu, vs] } } := k.trans (Kps.push _ s₄.toks)
  exact hop a vl vu vs s₄.heap.objs.size _ av (ho.up k'.kp) (G.up hg k'.kp) (V₁.up ha (((k₂.trans k₃).trans k₄).trans (Kps.push _ s₄.toks)).sqk) hvl hvu hvs (Heap.IsSliceOf.new ..) E Q fun y s₅ hy k₅ => hq y s₅ hy (k'.trans k₅)
end

section
variable {prog : Program} {w : World} {A : Around} {s : Shared} {av : Addr → Prop}

theorem op_sliceL {value : Expr} {lo hi st : Option Expr} {p : Pos} {Vs : List VP} {kl ku ks : Option Int} {a vl vu vs : Value} {sl : Addr} (ho : Off av s.heap) (ha : (VList Vs).P av s.heap a) (hvl : PartV kl vl) (hvu : PartV ku vu) (hvs : PartV ks vs)
    (hsl : s.heap.IsSliceOf sl vl vu vs) (h0 : ks ≠ some 0) (hsz : Vs.length ≤ sizeLine) : Op prog w A (subscriptTail value (.Slice lo hi st p) a (.ref sl)) s ((VList (pickL Vs kl ku ks)).P av) := by
  obtain ⟨l, us, rfl, _, hl, hi'⟩ := ha
  intro E Q hq
  refine tail_any (ops := if st.isNone then [.ref sl, .ref l] else [.ref l, .ref sl]) hl.typeIs slot_list_getitem.lookup (wpAny_getItem_list_slice hl hsl hvl.is hvu.is hvs.is h0 ?_ (by rw [List.size_toArray, hi'.length]; exact hsz)) (by cases st <;> rfl)
  rw [slicePick_toList]
  exact hq _ _ ⟨s.heap.objs.size, _, rfl, ho.new, ⟨_, Heap.get?_push_size _ rfl, rfl, 0, rfl⟩, (hi'.pick kl ku ks).up (Kps.push _ s.toks).sqk⟩ (Kps.push _ _)

theorem op_sliceS {value : Expr} {lo hi : Option Expr} {p : Pos} {x : Str} {kl ku : Option Int} {a vl vu vs : Value} {sl : Addr} (ha : (VStr x).P av s.heap a) (hvl : PartV kl vl) (hvu : PartV ku vu) (hvs : PartV none vs)
    (hsl : s.heap.IsSliceOf sl vl vu vs) (hsz : x.length ≤ sizeLine) : Op prog w A (subscriptTail value (.Slice lo hi none p) a (.ref sl)) s ((VStr (Txt.slice x kl ku)).P av) := by
  obtain ⟨t, rfl⟩ := ha
  obtain ⟨l, rfl, rfl⟩ := hvl.at
  obtain ⟨u, rfl, rfl⟩ := hvu.at
  obtain rfl : vs = .none := hvs
  intro E Q hq
  refine tail_any (typeIs_str _ _ _) PySem.F.slot_str_getitem.lookup (wpAny_getItem_str_slice (l := l) (u := u) (st := none) hsl rfl ?_) rfl
  exact post_val_or_str ⟨Nat.le_trans (Txt.slice_le x _ _) hsz, fun t' k => hq _ _ ⟨t', rfl⟩ (Kps.tok _)⟩

theorem op_sliceT {value : Expr} {lo hi : Option Expr} {p : Pos} {Vs : List VP} {n : Nat} {a vl vu vs : Value} {sl : Addr} (ho : Off av s.heap) (ha : (VTup Vs).P av s.heap a) (hvl : PartV (some (n : Int)) vl) (hvu : PartV none vu) (hvs : PartV none vs)
    (hsl : s.heap.IsSliceOf sl vl vu vs) (h1 : 1 ≤ n) (hn : n ≤ Vs.length) (hsz : Vs.length ≤ sizeLine) : Op prog w A (subscriptTail value (.Slice lo hi none p) a (.ref sl)) s ((VTup (Vs.drop n)).P av) := by
  obtain ⟨l, us, rfl, _, hl, hi'⟩ := ha
  obtain ⟨t, rfl⟩ := hvl
  obtain rfl : vu = .none := hvu
  obtain rfl : vs = .none := hvs
  intro E Q hq
  have e : us.toArray.size = Vs.length := by rw [List.size_toArray, hi'.length]
  refine tail_any hl.typeIs slot_tuple_getitem.lookup (getItem_tuple_from (a := n) hl hsl h1 (by rw [e]; exact hn) ?_ (by rw [e]; exact hsz)) rfl
  exact hq _ _ ⟨s.heap.objs.size, us.drop n, rfl, ho.new, ⟨_, Heap.get?_push_size _ rfl, rfl, 0, by simp⟩, (Paired.drop n hi' |> fun (x : Items av s.heap (us.drop n) (Vs.drop n)) => x.up (Kps.push _ s.toks).sqk)⟩ (Kps.push _ _)
end

section
variable {prog : Program} {w : World} {A : Around} {env : Env} {G : HP}

/-- sep.join(list of texts) -/
theorem ev_join {o e : Expr} {apos pos : Pos} {sep : Str} {xs : List Str} (h₁ : Ev prog w A env G o (VStr sep)) (h₂ : Ev prog w A env G e (VList (xs.map VStr))) (hok : JoinOk sep xs = true)
    (hbase : attributeBase o "join" env (eval o env) = eval o env := by kernel_rfl!) (hs : starEach [e] env = [(false, eval e env)] := by kernel_rfl!) (hline : (apos.endLine == pos.line) = true := by kernel_rfl!) :
    Ev prog w A env G (.Call (.Attribute o "join" apos) [e] [] pos) (VStr (Txt.join sep xs)) := by
  intro s av ho hg E Q hq
  refine Call_method1 hbase hs hline (h₁ s av ho hg E _ fun ov s₁ hov k₁ => ?_)
  obtain ⟨t, rfl⟩ := hov
  refine SB.join (h₂ s₁ av (ho.up k₁.kp) (G.up hg k₁.kp) E _ fun v s₂ hv k₂ => ?_)
  obtain ⟨D, us, rfl, _, hl, hi⟩ := hv
  obtain ⟨l, rfl, hl'⟩ := strValues_of hi
  exact ⟨D, l, rfl, hl, xs, hl', hok, fun t' k => hq _ _ ⟨t', rfl⟩ ((k₁.trans k₂).trans (Kps.tok _))⟩
/-- x.split(y) -/
theorem ev_split {o e : Expr} {apos pos : Pos} {x y : Str} (h₁ : Ev prog w A env G o (VStr x)) (h₂ : Ev prog w A env G e (VStr y)) (hy : (y.length == 0) = false) (hx : x.length ≤ sizeLine)
    (hn : (Builtin.Str.partsBetween x (Builtin.Str.occurrences x y 0 x.length (x.length + 1)) y.length).length ≤ sizeLine)
    (hbase : attributeBase o "split" env (eval o env) = eval o env := by kernel_rfl!) (hs : starEach [e] env = [(false, eval e env)] := by kernel_rfl!) (hline : (apos.endLine == pos.line) = true := by kernel_rfl!) :
    Ev prog w A env G (.Call (.Attribute o "split" apos) [e] [] pos) (VList ((Txt.split x y).map VStr)) := by
  intro s av ho hg E Q hq
  refine Call_method1 hbase hs hline (h₁ s av ho hg E _ fun ov s₁ hov k₁ => ?_)
  obtain ⟨t, rfl⟩ := hov
  refine ⟨"str", _, PySem.F.plainAttrs_str, PySem.F.slot_str_split, PySem.F.type_str_split, typeIs_str _ _ _, (fun _ e => nomatch e),
    method1_meets PySem.F.slot_str_split PySem.F.entry_str_split (h₂ s₁ av (ho.up k₁.kp) (G.up hg k₁.kp) E _ fun v s₂ hv k₂ => ?_)⟩
  obtain ⟨u, rfl⟩ := hv
  have k := k₁.trans k₂
  have fin : ∀ (l : List (Str × Tok)) (tk : Nat), l.map (·.1) = Txt.split x y → Q (.ref s₂.heap.objs.size) { s₂ with heap := s₂.heap.push { cls := .type "list", data := .seq (strValues l).toArray }, toks := tk } := fun l tk e =>
    hq _ _ ⟨s₂.heap.objs.size, strValues l, rfl, (ho.up k.kp).new, ⟨_, Heap.get?_push_size _ rfl, rfl, 0, rfl⟩, e ▸ items_strValues l⟩ (k.trans (Kps.push _ _))
  refine ⟨typeIs_str _ _ _, PySem.F.args_str_split_2 _ _, ?_⟩
  cases h1 : (decide (x.length < y.length) || decide (Builtin.Str.strKind x < Builtin.Str.strKind y))
  · cases hf : (Builtin.Str.occurrences x y 0 x.length (x.length + 1)).isEmpty
    · refine ⟨_, meets_str_split_sep x y t u h1 hy hf hx hn, ?_⟩
      show wants Q E _ { s₂ with toks := _, heap := s₂.heap.push { cls := .type "list", data := .seq (strsFrom s₂.toks (Builtin.Str.partsBetween x (Builtin.Str.occurrences x y 0 x.length (x.length + 1)) y.length)).toArray } }
      rw [strsFrom_eq]
      exact fin (numbered s₂.toks _) _ ((numbered_texts _ _).trans ((if_neg (ne_true_of_eq_false h1)).trans (if_neg (ne_true_of_eq_false hf))).symm)
    · exact ⟨_, meets_str_split_not_found x y t u h1 hy hf, fin [(x, t)] s₂.toks ((if_neg (ne_true_of_eq_false h1)).trans (if_pos hf)).symm⟩
  · exact ⟨_, meets_str_split_cannot_occur x y t u h1, fin [(x, t)] s₂.toks (if_pos h1).symm⟩
theorem ev_find {o e : Expr} {apos pos : Pos} {x y : Str} (h₁ : Ev prog w A env G o (VStr x)) (h₂ : Ev prog w A env G e (VStr y))
    (hbase : attributeBase o "find" env (eval o env) = eval o env := by kernel_rfl!) (hs : starEach [e] env = [(false, eval e env)] := by kernel_rfl!) (hline : (apos.endLine == pos.line) = true := by kernel_rfl!) :
    Ev prog w A env G (.Call (.Attribute o "find" apos) [e] [] pos) (VInt (Txt.find x y)) := by
  intro s av ho hg E Q hq
  refine Call_method1 hbase hs hline (h₁ s av ho hg E _ fun ov s₁ hov k₁ => ?_)
  obtain ⟨t, rfl⟩ := hov
  refine SB.find (h₂ s₁ av (ho.up k₁.kp) (G.up hg k₁.kp) E _ fun v s₂ hv k₂ => ?_)
  obtain ⟨u, rfl⟩ := hv
  exact ⟨y, u, rfl, hq _ _ ⟨_, rfl⟩ ((k₁.trans k₂).trans (Kps.tok _))⟩
theorem ev_count {o e : Expr} {apos pos : Pos} {x y : Str} (h₁ : Ev prog w A env G o (VStr x)) (h₂ : Ev prog w A env G e (VStr y))
    (hbase : attributeBase o "count" env (eval o env) = eval o env := by kernel_rfl!) (hs : starEach [e] env = [(false, eval e env)] := by kernel_rfl!) (hline : (apos.endLine == pos.line) = true := by kernel_rfl!) :
    Ev prog w A env G (.Call (.Attribute o "count" apos) [e] [] pos) (VInt (Txt.count x y)) := by
  intro s av ho hg E Q hq
  refine Call_method1 hbase hs hline (h₁ s av ho hg E _ fun ov s₁ hov k₁ => ?_)
  obtain ⟨t, rfl⟩ := hov
  refine SB.count (h₂ s₁ av (ho.up k₁.kp) (G.up hg k₁.kp) E _ fun v s₂ hv k₂ => ?_)
  obtain ⟨u, rfl⟩ := hv
  exact ⟨y, u, rfl, hq _ _ ⟨_, rfl⟩ ((k₁.trans k₂).trans (Kps.tok _))⟩
end
end Mine

end
section
namespace Mine

section
variable {prog : Program} {w : World} {A : Around} {env : Env} {h₀ : Heap} {md : Addr → Prop} {ρ : Locs} {X X' : Heap → Prop} {V : VP}

/-- r.append(e), r a list that may change -/
theorem ht_append {r : Str} {np apos pos epos : Pos} {elt : Expr} {R : Addr} {hX : OnMd md X} (f : Fx env h₀ md) (hr : ρ.lookup r = some (VRef R)) (hR : md R) (he : Ev prog w A env (frHP env h₀ ρ md X hX) elt V)
    (hpl : ∀ h, X h → ∃ vs, h.PlainList R vs ∧ vs.size ≤ sizeLine)
    (hnew : ∀ h h' vs v av, X h → h.PlainList R vs → V.P av h v → h'.PlainList R (vs.push v) → (∀ b o, b ≠ R → h.get? b = some o → h'.get? b = some o) → X' h')
    (hd : (r == ("__debug__" : Str)) = false := by decide) (hbase : attributeBase (.Name r np) "append" env (eval (.Name r np) env) = eval (.Name r np) env := by kernel_rfl!)
    (hfew : ((backTo pos (starEach [elt] env)).all (fun x => !x.1) && (backToKw pos (keywordEach [] env)).all (fun x => x.1.isSome)
      && decide (([elt] : List Expr).length + ([] : List Keyword).length + (if ([] : List Keyword).isEmpty then 0 else 1) < 30)) = true := by kernel_rfl!)
    (hline : (apos.endLine == pos.line) = true := by kernel_rfl!) (htrees : backTo pos (starEach [elt] env) = [(false, eval elt env)] := by kernel_rfl!)
    (hi : interactive env = false := by kernel_rfl!) (hs : swapsWith (.Call (.Attribute (.Name r np) "append" apos) [elt] [] pos) none epos.line env = pure false := by kernel_rfl!) :
    HT prog w A env h₀ md ρ X (exec (.Expr (.Call (.Attribute (.Name r np) "append" apos) [elt] [] pos) epos) env) ρ X' := by
  intro s av hm ho hF hXs E Q hq
  refine wpAny_Expr (wpAny_Call_append hbase hfew hline htrees (ev_name (X := X) (hX := hX) f.kind hr hd s av ho ⟨hF, hXs, hm⟩ E _ fun ov s₁ hov k₁ => ?_)) hi hs
  obtain rfl : ov = .ref R := hov
  have hX₁ := hX.kp _ _ hXs k₁.kp
  obtain ⟨vs, hvs, hvz⟩ := hpl _ hX₁
  obtain ⟨n₁, e₁⟩ := id hvs
  refine ⟨R, vs, rfl, ⟨_, n₁, e₁, rfl, rfl, rfl⟩, ?_⟩
  refine he s₁ av (ho.up k₁.kp) ⟨hF.up k₁.kp, hX₁, hm⟩ E _ fun y s₂ hy k₂ => ?_
  have k := k₁.trans k₂
  have hX₂ := hX.kp _ _ hXs k.kp
  have hvs₂ : s₂.heap.PlainList R vs := hvs.at fun o e => k₂.kp _ _ e
  refine wpAny_list_append_plain hvs₂ (fun h' hl' hs' => ?_) hvz
  have hk' : ∀ b o, b ≠ R → s₂.heap.get? b = some o → h'.get? b = some o := fun b o hb e => hs'.extBut b o hb e
  refine hq { s₂ with heap := h' } ((hF.up k.kp).step hk' (hm R hR) (f.mdo.loc R hR) (fun n => f.mdo.cell R n hR) (f.mdo.new R hR)) (hnew _ _ vs y av hX₂ hvs₂ hy hl' hk') (fun b hb => ?_)
    (k.mv.trans ⟨h', s₂.toks, rfl, fun b o _ _ hb e => hk' b o (by rintro rfl; exact hb hR) e⟩)
  by_cases hbR : b = R
  · rw [hbR]; obtain ⟨n, e⟩ := hl'; exact ⟨_, e⟩
  · obtain ⟨o, e⟩ := (ho.up k.kp) b hb; exact ⟨o, hk' b o hbR e⟩

/-- a, b = (e, f), stored in the order of the machine -/
theorem ht_assign2 {a b : Str} {elts : List Expr} {k : Nat} {tpos pos : Pos} {e₁ e₂ : Expr} {k₂ : Nat} {vp : Pos} {V₁ V₂ : VP} {hX : OnMd md X} (f : Fx env h₀ md) (hh : A.handled = none)
    (hE : Ev prog w A env (frHP env h₀ ρ md X hX) (.Tuple [e₁, e₂] k₂ vp) (VTup [V₁, V₂]))
    (ha : env.kindOf a = some .local) (hb : env.kindOf b = some .local)
    (hs : swapsWithSole [.Tuple elts k tpos] (.Tuple [e₁, e₂] k₂ vp) pos.line env = pure false := by kernel_rfl!) (hw : swappedStores [.Tuple elts k tpos] (.Tuple [e₁, e₂] k₂ vp) env = pure (some [a, b]) := by kernel_rfl!) :
    HT prog w A env h₀ md ρ X (exec (.Assign [.Tuple elts k tpos] (.Tuple [e₁, e₂] k₂ vp) pos) env) ((a, V₁) :: (b, V₂) :: ρ) X := by
  intro s av hm ho hF hXs E Q hq
  refine Assign_Tuple_swapped (hE s av ho ⟨hF, hXs, hm⟩ E _ fun v s₁ hv k₁ => ?_) hs hw
  obtain ⟨t, vs, rfl, hat, ht, hi⟩ := hv
  cases hi with | cons h1 r => cases r with | cons h2 r => cases r with | nil =>
  rename_i v₁ v₂
  have hn2 : ([a, b] : List Str).length = ([v₁, v₂] : List Value).toArray.size := rfl
  rw [hn2]
  refine PySem.wpAny_unpackItems_tuple hh ht fun h' he => ?_
  have kk : Kp s₁.heap h' := fun b o e => he b o (Nat.ne_of_lt (Heap.lt_size e)) e
  have k' : Kps s { s₁ with heap := h' } := k₁.trans (Kps.of (k := s₁.toks) kk)
  refine assignInOrder_cons ?_
  refine bindName_ (store (s := { s₁ with heap := h' }) f.kind f.cel f.mdo hX (.inl hb) (ho.up k'.kp) (hF.up k'.kp) (hX.kp _ _ hXs k'.kp) (V₂.up h2 (Kp.sqk kk)) fun s₂ hF₂ hX₂ ho₂ mv₂ => ?_)
  refine assignInOrder_cons ?_
  have h1' : V₁.P av s₂.heap v₁ := by
    obtain ⟨h2', t2, e2, k2⟩ := mv₂
    subst e2
    refine V₁.up (V₁.up h1 (Kp.sqk kk)) fun b o hb' ⟨xs, n, hd⟩ e => k2 b o ?_ ?_ (fun h => hb' (hm b h)) e
    · rintro rfl
      obtain ⟨o', es, ep, e', d'⟩ := (hF.up k'.kp).locals
      change h'.get? _ = _ at e'
      change h'.get? _ = _ at e
      rw [e'] at e; cases e; rw [d'] at hd; cases hd
    · intro n' hc
      obtain ⟨v'', o', e', d'⟩ := (hF.up k'.kp).cellAt hc
      change h'.get? _ = _ at e'
      change h'.get? _ = _ at e
      rw [e'] at e; cases e; rw [d'] at hd; cases hd
  refine bindName_ (store f.kind f.cel f.mdo hX (.inl ha) ho₂ hF₂ hX₂ h1' fun s₃ hF₃ hX₃ ho₃ mv₃ => ?_)
  refine assignInOrder_nil ?_
  exact hq s₃ hF₃ hX₃ ho₃ ((k'.mv.trans mv₂).trans mv₃)

/-- a while whose test is known at each turn -/
theorem ht_while {test : Expr} {body : List Stmt} {pos : Pos} {hX : OnMd md X} (ρ : Nat → Locs) (n : Nat) (htt : ∀ i, i < n → Tst prog w A env (frHP env h₀ (ρ i) md X hX) test true) (htf : Tst prog w A env (frHP env h₀ (ρ n) md X hX) test false)
    (hb : ∀ i, i < n → HT prog w A env h₀ md (ρ i) X (execs body env) (ρ (i + 1)) X) : HT prog w A env h₀ md (ρ 0) X (exec (.While test body [] pos) env) (ρ n) X := by
  intro s av hm ho hF hXs E Q hq
  refine wpAny_While (codeAny_whileLoop (fun j s' => ∃ i, i ≤ n ∧ j = n - i ∧ FrameIs env h₀ (ρ i) av s'.heap ∧ X s'.heap ∧ Off av s'.heap ∧ Mv env md s s') ?_ n ⟨0, Nat.zero_le _, rfl, hF, hXs, ho, Mv.refl s⟩)
  rintro j s₁ ⟨i, hi, rfl, hF₁, hX₁, ho₁, mv₁⟩
  by_cases hlt : i < n
  · refine htt i hlt s₁ av ho₁ ⟨hF₁, hX₁, hm⟩ _ _ fun b s₂ hb2 k₂ => ?_
    subst hb2
    simp only [if_true]
    refine hb i hlt s₂ av hm (ho₁.up k₂.kp) (hF₁.up k₂.kp) (hX.kp _ _ hX₁ k₂.kp) _ _ fun s₃ hF₃ hX₃ ho₃ mv₃ => ?_
    exact ⟨n - (i + 1), by omega, i + 1, hlt, rfl, hF₃, hX₃, ho₃, (mv₁.trans k₂.mv).trans mv₃⟩
  · have hin : i = n := by omega
    subst hin
    refine htf s₁ av ho₁ ⟨hF₁, hX₁, hm⟩ _ _ fun b s₂ hb2 k₂ => ?_
    subst hb2
    simp only [Bool.false_eq_true, if_false]
    exact wpAny_execs_nil (hq s₂ (hF₁.up k₂.kp) (hX.kp _ _ hX₁ k₂.kp) (ho₁.up k₂.kp) (mv₁.trans k₂.mv))

/-- the truth of a tuple under a name -/
theorem tst_tup {x : Str} {pos : Pos} {Vs : List VP} {hX : OnMd md X} (hk : env.scope.kind = .function) (hρ : ρ.lookup x = some (VTup Vs)) (hfit : (Vs.length : Int) < 2 ^ 63) (hd : (x == ("__debug__" : Str)) = false := by decide) :
    Tst prog w A env (frHP env h₀ ρ md X hX) (.Name x pos) (!Vs.isEmpty) := by
  intro s av ho hg E Q hq
  refine isTrue_plain (ev_name hk hρ hd s av ho hg E _ fun v s₁ hv k₁ => ?_)
  obtain ⟨a, vs, rfl, _, ht, hi⟩ := hv
  have e : vs.toArray.size = Vs.length := by rw [List.size_toArray, hi.length]
  refine truthy_tuple ht (by rw [e]; exact hfit) (hq _ _ ?_ (k₁.trans (Kps.tok _)))
  cases Vs with
  | nil => cases hi with | nil => rfl
  | cons V Vs => cases hi with | cons _ _ => simp
end
end Mine

end
section
namespace Mine

section
variable {prog : Program} {w : World} {A : Around} {defs : List DefItem} {names : List Str} {V : VP}

/-- a def with one parameter and a starred one -/
theorem callOkVar {d : DefItem} {p q : Str} {V₁ : VP} {Vs : List VP} (hpq : p ≠ q) (hroom : A.depth < recursionLimit) (hh : A.handled = none) (hbind : ∀ pm cd doc v vs, bindArgs (docDef d.name d.params d.body d.scope pm cd doc) ⟨v :: vs, []⟩ = (newTuple vs >>= fun t => pure [(p, v), (q, t)]))
    (hloc : d.scope.names.lookup p = some .local) (hloc' : d.scope.names.lookup q = some .local) (hcell : ∀ x ∈ d.scope.names, x.2 ≠ .cell) (hk : d.scope.kind = .function) (hco : d.scope.isCoroutine = false) (hgen : d.scope.isGenerator = false)
    (hsz : Vs.length ≤ sizeLine)
    (hbody : ∀ L f cd h₀, Cx (A.deeper (envOf d.name d.scope L f cd)) (envOf d.name d.scope L f cd) h₀ defs names →
      HR prog w (A.deeper (envOf d.name d.scope L f cd)) (envOf d.name d.scope L f cd) h₀ noMd [(p, V₁), (q, VTup Vs)] noX (execs d.body (envOf d.name d.scope L f cd)) V) : CallOk prog w A defs names d (V₁ :: Vs) V := by
  intro s av f vs ho hf hG hvs E Q hq
  obtain ⟨c', o, pm, doc, h1, h2, h3⟩ := hf
  cases hvs with | cons hv hr =>
  rename_i v vs
  obtain ⟨N, mg, mb, consts, objs, G⟩ := hG
  refine wpAny_call (codeAny_call_function hroom h1 h2 hco hgen rfl h3 ?_)
  rw [hbind]
  refine wpAny_bind (wpAny_newObj_type (wpAny_pure ?_) (by show vs.toArray.size ≤ sizeLine; rw [List.size_toArray, (show Items av s.heap vs Vs from hr).length]; exact hsz))
  generalize hob : ({ cls := .type "tuple", dict := none, data := .seq vs.toArray } : Obj) = ob
  generalize hH : s.heap.push ob = H
  have kH : Kp s.heap H := fun b o e => hH ▸ Heap.get?_push_of_some _ e
  have G' := G.keeps kH
  refine wpAny_newFunctionEnv (s := { s with heap := H }) hcell (by intro x hx; simp at hx; rcases hx with rfl | rfl <;> assumption) (fun h₁ hns hsb => ⟨G'.nolimit.fresh _ hsb, ?_⟩) hk
  show codeAny _ _ (.func d.body (envOf d.name d.scope H.objs.size f (.ref c'))) _ _
  have k1 : Kp H h₁ := fun b o e => hsb.extBut b o (Nat.ne_of_lt (Heap.lt_size e)) (Heap.get?_push_of_some _ e)
  have F : Fr s.heap H.objs.size h₁ (fun x => [(p, v), (q, Value.ref s.heap.objs.size)].reverse.lookup x) := ⟨hns, fun b o e => k1 b o (kH b o e), by rw [← hH, Heap.size_push]; exact Nat.le_succ _⟩
  have k : Kp s.heap h₁ := F.keep
  have hT : H.get? s.heap.objs.size = some ob := by subst hob; exact hH ▸ Heap.get?_push_size _ rfl
  refine codeAny_func ?_
  refine hbody _ _ _ s.heap ⟨hk, rfl, rfl, hh, ⟨N, mg, mb, consts, objs, G⟩⟩ { s with heap := h₁, toks := _ } av (fun _ h => h.elim) (ho.up k) (frame_of F fun x W hx => ?_) trivial _ _ fun v' s' hv' hk' mv => ?_
  · by_cases hxp : x = p
    · subst hxp
      rw [List.lookup_cons_self] at hx
      obtain rfl := Option.some.inj hx
      exact ⟨v, V₁.up hv (Kp.sqk k), hloc, by simp [List.lookup_cons, show (x == q) = false by simpa using hpq]⟩
    · rw [List.lookup_cons, show (x == p) = false by simpa using hxp] at hx
      by_cases hxq : x = q
      · subst hxq
        rw [List.lookup_cons_self] at hx
        obtain rfl := Option.some.inj hx
        exact ⟨.ref s.heap.objs.size, ⟨_, vs, rfl, ho.new, ⟨ob, k1 _ _ hT, by subst hob; rfl, 0, by subst hob; rfl⟩, (show Items av s.heap vs Vs from hr).up (Kp.sqk k)⟩, hloc', by simp⟩
      · rw [List.lookup_cons, show (x == q) = false by simpa using hxq] at hx; simp at hx
  · obtain ⟨h2, t2, rfl, _⟩ := mv
    exact hq v' _ hv' (Kps.of hk')
end
end Mine

end
section
namespace Mine

theorem Tst.eq {prog : Program} {w : World} {A : Around} {env : Env} {G : HP} {e : Expr} {b c : Bool} (h : Tst prog w A env G e b) (hb : b = c) : Tst prog w A env G e c := hb ▸ h

def sName : Stmt → Str
  | .FunctionDef n _ _ _ _ _ _ _ _ _ => n
  | _ => ""
def sArgs : Stmt → Arguments
  | .FunctionDef _ a _ _ _ _ _ _ _ _ => a
  | _ => ⟨[], [], none, [], [], none, []⟩
def sBody : Stmt → List Stmt
  | .FunctionDef _ _ b _ _ _ _ _ _ _ => b
  | _ => []
def sScope : Stmt → Scope
  | .FunctionDef _ _ _ _ _ _ s _ _ _ => s
  | _ => ⟨.function, [], false, false, []⟩
def sPos : Stmt → Pos
  | .FunctionDef _ _ _ _ _ _ _ _ _ p => p
  | _ => ⟨0, 0, 0, 0⟩
def sItem (s : Stmt) : DefItem := ⟨sName s, sArgs s, sBody s, sScope s, sPos s⟩
def nth (p : Program) (n : Nat) : Stmt := p.main.body.getD n (.Pass ⟨0, 0, 0, 0⟩)

abbrev P1 : Program := PySem.Challenge.pw_rl0006_01
def dRep : DefItem := sItem (nth P1 1)
def dLow : DefItem := sItem (nth P1 4)
def dHigh : DefItem := sItem (nth P1 5)

section
variable {prog : Program} {w : World} {A : Around} {defs : List DefItem} {names : List Str}

set_option maxRecDepth 20000 in
theorem low_ok {xs ys : List Str} {y : Str} (hroom : A.depth < recursionLimit) (hh : A.handled = none) (n1 : ("sorted" : Str) ∉ names) (n2 : ("len" : Str) ∉ names)
    (h64 : xs.length < 64) (h0 : 0 < xs.length) (hys : ∀ ys', ys'.Perm xs → sortedS ys' = true → ys' = ys) (hlen : ys.length = xs.length) (hy : ys[(xs.length - 1) / 2]? = some y) :
    CallOk prog w A defs names dLow [VList (xs.map VStr)] (VStr y) := by
  refine callOk1 (p := "data") hroom hh (fun _ _ _ _ => rfl) (by rfl) (by decide +kernel) rfl rfl rfl fun L f cd h₀ C => ?_
  have fx : Fx (envOf dLow.name dLow.scope L f cd) h₀ noMd := fx_of rfl
  refine hr_cons (ht_assign fx onNo (ev_callB (ev_builtin C (by decide +kernel) n1 (by rfl)) (ae_cons (ev_name C.kind (by rfl)) ae_nil) fun vs s av ho hg hvs => op_sorted hvs h64 ho hys) (.inl (by rfl))) ?_
  refine hr_cons (ht_assign fx onNo (ev_callB (ev_builtin C (by decide +kernel) n2 (by rfl)) (ae_cons (ev_name C.kind (by rfl)) ae_nil) fun vs s av ho hg hvs => op_lenL (by rw [List.length_map]; omega) hvs) (.inl (by rfl))) ?_
  rw [List.length_map, hlen]
  refine hr_cons (ht_if (c := false) onNo (tst_Compare (ev_name C.kind (by rfl)) ev_int fun a b s av ho hg ha hb => (op_eqI ha hb).mono fun h y hy => hy.trans (by rw [show ((xs.length : Int) == 0) = false by simpa using Nat.ne_of_gt h0])) (fun h => nomatch h) fun _ => ht_nil) ?_
  refine hr_if (c := decide (xs.length % 2 = 1)) onNo (tst_Compare (ev_BinOp (ev_name C.kind (by rfl)) ev_int fun a b s av ho hg ha hb => op_modI (by decide) ha hb) ev_int fun a b s av ho hg ha hb => (op_eqI ha hb).mono fun h y hy => hy.trans ?_) ?_ ?_
  · congr 1
    rw [Bool.eq_iff_iff]
    simp only [beq_iff_eq, decide_eq_true_eq, Int.fmod_eq_emod_of_nonneg _ (show (0 : Int) ≤ 2 by decide)]
    omega
  · intro hc
    have hc' : xs.length % 2 = 1 := by simpa using hc
    refine hr_return onNo (ev_sub (ev_name C.kind (by rfl)) (ev_BinOp (ev_name C.kind (by rfl)) ev_int fun a b s av ho hg ha hb => op_divI (by decide) ?_ ha hb) fun a b s av ho hg ha hb => op_itemL ha hb ?_ ?_ ?_ (fun _ _ => rfl))
    · exact PyProof.noPylong_small (by omega)
    · rw [Int.fdiv_eq_ediv_of_nonneg _ (by decide)]; omega
    · rw [Int.fdiv_eq_ediv_of_nonneg _ (by decide)]; omega
    · rw [List.getElem?_map, Int.fdiv_eq_ediv_of_nonneg _ (by decide), show (((xs.length : Nat) : Int) / 2).toNat = (xs.length - 1) / 2 by omega, hy]; rfl
  · intro hc
    have hc' : xs.length % 2 = 0 := by have : ¬ xs.length % 2 = 1 := by simpa using hc
                                       omega
    refine hr_return onNo (ev_sub (ev_name C.kind (by rfl)) (ev_BinOp (ev_BinOp (ev_name C.kind (by rfl)) ev_int fun a b s av ho hg ha hb => op_divI (by decide) ?_ ha hb) ev_int fun a b s av ho hg ha hb => op_subI ha hb) fun a b s av ho hg ha hb => op_itemL ha hb ?_ ?_ ?_ (fun _ _ => rfl))
    · exact PyProof.noPylong_small (by omega)
    · rw [Int.fdiv_eq_ediv_of_nonneg _ (by decide)]; omega
    · rw [Int.fdiv_eq_ediv_of_nonneg _ (by decide)]; omega
    · rw [List.getElem?_map, Int.fdiv_eq_ediv_of_nonneg _ (by decide), show (((xs.length : Nat) : Int) / 2 - 1).toNat = (xs.length - 1) / 2 by omega, hy]; rfl

set_option maxRecDepth 20000 in
theorem high_ok {xs ys : List Str} {y : Str} (hroom : A.depth < recursionLimit) (hh : A.handled = none) (n1 : ("sorted" : Str) ∉ names) (n2 : ("len" : Str) ∉ names)
    (h64 : xs.length < 64) (h0 : 0 < xs.length) (hys : ∀ ys', ys'.Perm xs → sortedS ys' = true → ys' = ys) (hlen : ys.length = xs.length) (hy : ys[xs.length / 2]? = some y) :
    CallOk prog w A defs names dHigh [VList (xs.map VStr)] (VStr y) := by
  refine callOk1 (p := "data") hroom hh (fun _ _ _ _ => rfl) (by rfl) (by decide +kernel) rfl rfl rfl fun L f cd h₀ C => ?_
  have fx : Fx (envOf dHigh.name dHigh.scope L f cd) h₀ noMd := fx_of rfl
  refine hr_cons (ht_assign fx onNo (ev_callB (ev_builtin C (by decide +kernel) n1 (by rfl)) (ae_cons (ev_name C.kind (by rfl)) ae_nil) fun vs s av ho hg hvs => op_sorted hvs h64 ho hys) (.inl (by rfl))) ?_
  refine hr_cons (ht_assign fx onNo (ev_callB (ev_builtin C (by decide +kernel) n2 (by rfl)) (ae_cons (ev_name C.kind (by rfl)) ae_nil) fun vs s av ho hg hvs => op_lenL (by rw [List.length_map]; omega) hvs) (.inl (by rfl))) ?_
  rw [List.length_map, hlen]
  refine hr_cons (ht_if (c := false) onNo (tst_Compare (ev_name C.kind (by rfl)) ev_int fun a b s av ho hg ha hb => (op_eqI ha hb).mono fun h y hy => hy.trans (by rw [show ((xs.length : Int) == 0) = false by simpa using Nat.ne_of_gt h0])) (fun h => nomatch h) fun _ => ht_nil) ?_
  refine hr_return onNo (ev_sub (ev_name C.kind (by rfl)) (ev_BinOp (ev_name C.kind (by rfl)) ev_int fun a b s av ho hg ha hb => op_divI (by decide) ?_ ha hb) fun a b s av ho hg ha hb => op_itemL ha hb ?_ ?_ ?_ (fun _ _ => rfl))
  · exact PyProof.noPylong_small (by omega)
  · rw [Int.fdiv_eq_ediv_of_nonneg _ (by decide)]; omega
  · rw [Int.fdiv_eq_ediv_of_nonneg _ (by decide)]; omega
  · rw [List.getElem?_map, Int.fdiv_eq_ediv_of_nonneg _ (by decide), show (((xs.length : Nat) : Int) / 2).toNat = xs.length / 2 by omega, hy]; rfl

/-- one pair of replace: the parts of x between the y, joined by z -/
def rep1 (x y z : Str) : Str := Txt.join z (Txt.split x y)
/-- all pairs, two texts each -/
def repAll : Str → List Str → Str
  | x, y :: z :: r => repAll (rep1 x y z) r
  | x, _ => x
/-- the sizes stay within the line -/
def RepOk (x y z : Str) : Prop := (y.length == 0) = false ∧ x.length ≤ sizeLine ∧ (Builtin.Str.partsBetween x (Builtin.Str.occurrences x y 0 x.length (x.length + 1)) y.length).length ≤ sizeLine ∧ JoinOk z (Txt.split x y) = true
/-- the texts behind i pairs -/
def repTo : Nat → Str → List Str → Str × List Str
  | 0, x, ps => (x, ps)
  | i + 1, x, y :: z :: r => repTo i (rep1 x y z) r
  | _ + 1, x, ps => (x, ps)
theorem repTo_succ : ∀ (i : Nat) (x : Str) (ps : List Str) (x' : Str) (y z : Str) (r : List Str), repTo i x ps = (x', y :: z :: r) → repTo (i + 1) x ps = (rep1 x' y z, r)
  | 0, x, ps, x', y, z, r, h => by cases h; rfl
  | i + 1, x, [], x', y, z, r, h => by cases h
  | i + 1, x, [_], x', y, z, r, h => by cases h
  | i + 1, x, y :: z :: r, x', y', z', r', h => by
    have := repTo_succ i (rep1 x y z) r x' y' z' r' h
    exact this
theorem repTo_len : ∀ (i n : Nat) (x : Str) (ps : List Str), ps.length = 2 * n → i ≤ n → (repTo i x ps).2.length = 2 * (n - i)
  | 0, n, x, ps, h, _ => by simpa [repTo] using h
  | i + 1, n, x, [], h, hi => by simp at h; omega
  | i + 1, n, x, [_], h, hi => by simp at h; omega
  | i + 1, n, x, y :: z :: r, h, hi => by
    have := repTo_len i (n - 1) (rep1 x y z) r (by simp at h; omega) (by omega)
    show (repTo i (rep1 x y z) r).2.length = _
    rw [this]; omega
theorem repTo_all : ∀ (n : Nat) (x : Str) (ps : List Str), ps.length = 2 * n → repTo n x ps = (repAll x ps, [])
  | 0, x, ps, h => by have : ps = [] := List.eq_nil_of_length_eq_zero (by omega)
                      subst this; rfl
  | n + 1, x, [], h => by simp at h
  | n + 1, x, [_], h => by simp at h; omega
  | n + 1, x, y :: z :: r, h => repTo_all n (rep1 x y z) r (by simp at h; omega)

theorem bind_var {name : Str} {params : Arguments} {body : List Stmt} {scope : Scope} {pm cd doc v : Value} {vs : List Value} {a b : Arg} (hp : params = ⟨[], [a], some b, [], [], none, []⟩) :
    bindArgs (docDef name params body scope pm cd doc) ⟨v :: vs, []⟩ = (newTuple vs >>= fun t => pure [(a.arg, v), (b.arg, t)]) := by
  subst hp
  unfold bindArgs docDef
  simp [seqItems?]
  rfl
set_option maxRecDepth 20000 in
theorem rep_ok {x : Str} {ps : List Str} {n : Nat} (hroom : A.depth < recursionLimit) (hh : A.handled = none) (hn : ps.length = 2 * n) (hsz : ps.length ≤ 1000)
    (hok : ∀ i x' y z r, i < n → repTo i x ps = (x', y :: z :: r) → RepOk x' y z) : CallOk prog w A defs names dRep (VStr x :: ps.map VStr) (VStr (repAll x ps)) := by
  refine callOkVar (p := "text") (q := "pairs") (by decide) hroom hh (fun _ _ _ _ _ => bind_var rfl) (by rfl) (by rfl) (by decide +kernel) rfl rfl rfl (by rw [List.length_map, sizeLine_eq]; omega) fun L f cd h₀ C => ?_
  have fx : Fx (envOf dRep.name dRep.scope L f cd) h₀ noMd := fx_of rfl
  refine hr_cons (ρ₁ := [("text", VStr (repAll x ps)), ("pairs", VTup [])]) (ht_sub (ht_while (hX := onNo) (fun i => [("text", VStr (repTo i x ps).1), ("pairs", VTup ((repTo i x ps).2.map VStr))]) n (fun i hi => ?_) ?_ fun i hi => ?_) ?_) (hr_return onNo (ev_name C.kind (by rfl)))
  · have hl := repTo_len i n x ps hn (Nat.le_of_lt hi)
    refine Tst.eq (tst_tup (Vs := (repTo i x ps).2.map VStr) C.kind (by rfl) (by rw [List.length_map]; omega)) ?_
    cases h : (repTo i x ps).2 with
    | nil => rw [h] at hl; simp at hl; omega
    | cons _ _ => rfl
  · refine Tst.eq (tst_tup (Vs := (repTo n x ps).2.map VStr) C.kind (by rfl) (by rw [repTo_all n x ps hn]; show ((0 : Nat) : Int) < 2 ^ 63; decide)) ?_
    rw [repTo_all n x ps hn]; rfl
  · have hl := repTo_len i n x ps hn (Nat.le_of_lt hi)
    obtain ⟨x', qs, e⟩ : ∃ x' qs, repTo i x ps = (x', qs) := ⟨_, _, rfl⟩
    rw [e] at hl
    match qs, hl, e with
    | y :: z :: r, hl, e =>
      obtain ⟨h1, h2, h3, h4⟩ := hok i x' y z r hi e
      have hr : r.length ≤ 1000 := by simp at hl; omega
      rw [e, repTo_succ i x ps x' y z r e]
      refine ht_sub (ht_cons (ht_assign fx onNo (ev_join (sep := z) (xs := Txt.split x' y) (ev_sub (ev_name C.kind (by rfl)) ev_int fun a b s av ho hg ha hb => op_itemT ha hb (by decide) (by decide) rfl (fun _ _ => rfl))
        (ev_split (ev_name C.kind (by rfl)) (ev_sub (ev_name C.kind (by rfl)) ev_int fun a b s av ho hg ha hb => op_itemT ha hb (by decide) (by decide) rfl (fun _ _ => rfl)) h1 h2 h3) h4) (.inl (by rfl)))
        (ht_cons (ht_assign fx onNo (ev_slice (ev_name C.kind (by rfl)) (ep_some ev_int) ep_none ep_none fun a vl vu vs sl s av ho hg ha hvl hvu hvs hsl => op_sliceT (n := 2) ho ha hvl hvu hvs hsl (by decide) (by simp) (by rw [sizeLine_eq]; simp; omega)) (.inl (by rfl))) ht_nil)) ?_
      intro p hp
      simp only [List.mem_cons, List.not_mem_nil, or_false] at hp
      rcases hp with rfl | rfl
      · rfl
      · rfl
    | [_], hl, _ => simp at hl; omega
    | [], hl, _ => simp at hl; omega
  · intro p hp
    rw [repTo_all n x ps hn]
    simp only [List.mem_cons, List.not_mem_nil, or_false] at hp
    rcases hp with rfl | rfl
    · rfl
    · rfl
end
end Mine

end
section
open PySem PySem.Builtin PySem.Builtin.Str PySem.StrLaws
namespace Mine

/-- each y from the left, at place i on -/
def cutsW (y : List Nat) : Nat → List Nat → List Nat
  | _, [] => []
  | i, c :: t => if ((c :: t).take y.length == y) = true then i :: cutsW y (i + y.length) (t.drop (y.length - 1)) else cutsW y (i + 1) t
termination_by _ l => l.length
decreasing_by all_goals simp_wf; try omega
/-- each y from the left gives way to z -/
def replW (y z : List Nat) : List Nat → List Nat
  | [] => []
  | c :: t => if ((c :: t).take y.length == y) = true then z ++ replW y z (t.drop (y.length - 1)) else c :: replW y z t
termination_by l => l.length
decreasing_by all_goals simp_wf; try omega

theorem cutsW_nil (y : List Nat) (i : Nat) : cutsW y i [] = [] := by rw [cutsW]
theorem replW_nil (y z : List Nat) : replW y z [] = [] := by rw [replW]
theorem cutsW_cons (y : List Nat) (i c : Nat) (t : List Nat) : cutsW y i (c :: t) = if ((c :: t).take y.length == y) = true then i :: cutsW y (i + y.length) (t.drop (y.length - 1)) else cutsW y (i + 1) t := by rw [cutsW]
theorem replW_cons (y z : List Nat) (c : Nat) (t : List Nat) : replW y z (c :: t) = if ((c :: t).take y.length == y) = true then z ++ replW y z (t.drop (y.length - 1)) else c :: replW y z t := by rw [replW]

theorem drop_cons {l : List Nat} {i : Nat} (h : i < l.length) : l.drop i = l[i] :: l.drop (i + 1) := List.drop_eq_getElem_cons h

theorem occ_loop (x y : Str) (hy : 1 ≤ y.length) : ∀ (k i : Nat) (found : Array Nat) (free : Nat), i + k = x.length + 1 → found.size ≤ i →
    (forIn (List.range' i k) (found, free) (occBody x y x.length (x.length + 1))).run.fst.toList = found.toList ++ cutsW y.cps.toList (max i free) (x.cps.toList.drop (max i free)) := by
  have hxl : x.cps.toList.length = x.length := by simp [Str.length]
  have hyl : y.cps.toList.length = y.length := by simp [Str.length]
  intro k
  induction k with
  | zero =>
    intro i found free hk hf
    rw [List.drop_of_length_le (by rw [hxl]; omega), cutsW_nil]
    simp
  | succ k ih =>
    intro i found free hk hf
    rw [List.range'_succ, List.forIn_cons]
    unfold occBody
    split
    · rename_i hc
      obtain ⟨⟨⟨h1, h2⟩, h3⟩, h4⟩ := hc
      have e := ih (i + 1) (found.push i) (i + y.length) (by omega) (by simp; omega)
      simp only [pure_bind]
      have e' : (forIn (List.range' (i + 1) k) (found.push i, i + y.length) (occBody x y x.length (x.length + 1))).run.fst.toList = _ := e
      refine e'.trans ?_
      rw [Nat.max_eq_right (by omega : i + 1 ≤ i + y.length), Nat.max_eq_left h2, drop_cons (by rw [hxl]; omega : i < x.cps.toList.length), cutsW_cons]
      rw [subAt_eq, drop_cons (by rw [hxl]; omega : i < x.cps.toList.length)] at h4
      rw [hyl, if_pos h4, List.drop_drop, show i + 1 + (y.length - 1) = i + y.length by omega]
      simp
    · rename_i hc
      have e := ih (i + 1) found free (by omega) (by omega)
      simp only [pure_bind]
      have e' : (forIn (List.range' (i + 1) k) (found, free) (occBody x y x.length (x.length + 1))).run.fst.toList = _ := e
      refine e'.trans ?_
      by_cases hfi : free ≤ i
      · rw [Nat.max_eq_left (by omega : free ≤ i + 1), Nat.max_eq_left hfi]
        by_cases hin : i < x.length
        · rw [drop_cons (by rw [hxl]; omega : i < x.cps.toList.length), cutsW_cons, if_neg]
          intro hm
          refine hc ⟨⟨⟨(show found.size < x.length + 1 by omega), hfi⟩, ?_⟩, ?_⟩
          · have := congrArg List.length (beq_iff_eq.mp hm)
            rw [List.length_take, List.length_cons, List.length_drop, hyl, hxl] at this
            omega
          · rw [subAt_eq, drop_cons (by rw [hxl]; omega : i < x.cps.toList.length), ← hyl]; exact hm
        · rw [List.drop_of_length_le (by rw [hxl]; omega), List.drop_of_length_le (by rw [hxl]; omega), cutsW_nil, cutsW_nil]
      · rw [Nat.max_eq_right (by omega), Nat.max_eq_right (by omega)]
theorem occ_cuts (x y : Str) (hy : 1 ≤ y.length) : occurrences x y 0 x.length (x.length + 1) = cutsW y.cps.toList 0 x.cps.toList := by
  rw [occ_eq, occ_loop x y hy (x.length + 1 - 0) 0 #[] 0 (by omega) (by simp)]
  simp

theorem join_toList_cons (z p q : Str) (r : List Str) : (Str.join z (p :: q :: r)).cps.toList = p.cps.toList ++ z.cps.toList ++ (Str.join z (q :: r)).cps.toList := by
  show (p ++ z ++ Str.join z (q :: r)).cps.toList = _
  rw [Str.cps_append, Str.cps_append]; simp

theorem parts_repl (x y z : Str) (hy : 1 ≤ y.length) : ∀ (k i a : Nat), i + k = x.length → a ≤ i →
    (Str.join z (partsFrom x y.length a (cutsW y.cps.toList i (x.cps.toList.drop i)))).cps.toList = (x.cps.toList.drop a).take (i - a) ++ replW y.cps.toList z.cps.toList (x.cps.toList.drop i) := by
  have hxl : x.cps.toList.length = x.length := by simp [Str.length]
  have hyl : y.cps.toList.length = y.length := by simp [Str.length]
  intro k
  induction k using Nat.strongRecOn with
  | ind k ih =>
    intro i a hk ha
    by_cases hin : i < x.length
    · rw [drop_cons (by rw [hxl]; omega : i < x.cps.toList.length), cutsW_cons, replW_cons]
      split
      · rename_i hm
        have hlen := congrArg List.length (beq_iff_eq.mp hm)
        rw [List.length_take, List.length_cons, List.length_drop, hyl, hxl] at hlen
        have e := ih (k - y.length) (by omega) (i + y.length) (i + y.length) (by omega) (Nat.le_refl _)
        rw [hyl, List.drop_drop, show i + 1 + (y.length - 1) = i + y.length by omega]
        show (Str.join z (strSub x a i :: partsFrom x y.length (i + y.length) _)).cps.toList = _
        obtain ⟨p, r, hpr⟩ := partsFrom_ne x y.length (i + y.length) (cutsW y.cps.toList (i + y.length) (x.cps.toList.drop (i + y.length)))
        rw [hpr] at e ⊢
        rw [join_toList_cons, e, strSub_toList]
        simp
      · have e := ih (k - 1) (by omega) (i + 1) a (by omega) (by omega)
        rw [e]
        have : (x.cps.toList.drop a).take (i + 1 - a) = (x.cps.toList.drop a).take (i - a) ++ [x.cps.toList[i]'(by rw [hxl]; omega)] := by
          rw [show i + 1 - a = (i - a) + 1 by omega, List.take_add_one, List.getElem?_drop, show a + (i - a) = i by omega, List.getElem?_eq_getElem (by rw [hxl]; omega)]
          rfl
        rw [this]
        simp
    · have hi : i = x.length := by omega
      subst hi
      rw [List.drop_of_length_le (by rw [hxl]; omega : x.cps.toList.length ≤ x.length), cutsW_nil, replW_nil]
      show (strSub x a x.length).cps.toList = _
      rw [strSub_toList, List.append_nil]

theorem kind_one {y : Str} (h : y.cps.all (· < 256) = true) : Builtin.Str.strKind y = 1 := by unfold Builtin.Str.strKind; rw [if_pos h]
theorem kind_pos (x : Str) : 1 ≤ Builtin.Str.strKind x := by unfold Builtin.Str.strKind; split <;> (try split) <;> omega

theorem split_parts (x y : Str) (hy : 1 ≤ y.length) (hk : y.cps.all (· < 256) = true) : Txt.split x y = partsFrom x y.length 0 (cutsW y.cps.toList 0 x.cps.toList) := by
  have hxl : x.cps.toList.length = x.length := by simp [Str.length]
  have hyl : y.cps.toList.length = y.length := by simp [Str.length]
  unfold Txt.split
  rw [occ_cuts x y hy]
  have hwhole : partsFrom x y.length 0 [] = [x] := by show [strSub x 0 x.length] = [x]; rw [sub_whole]
  split
  · rename_i hc
    have hlt : x.length < y.length := by
      rw [Bool.or_eq_true] at hc
      rcases hc with h | h
      · simpa using h
      · have : Builtin.Str.strKind x < Builtin.Str.strKind y := by simpa using h
        rw [kind_one hk] at this
        have := kind_pos x
        omega
    have : ∀ (l : List Nat) (i : Nat), l.length < y.length → cutsW y.cps.toList i l = [] := by
      intro l
      induction l with
      | nil => intro i _; exact cutsW_nil _ _
      | cons c t ih =>
        intro i hl
        rw [cutsW_cons, if_neg, ih _ (by simp at hl; omega)]
        intro hm
        have := congrArg List.length (beq_iff_eq.mp hm)
        rw [List.length_take, hyl] at this
        omega
    rw [this _ _ (by rw [hxl]; exact hlt), hwhole]
  · split
    · rename_i he
      rw [show cutsW y.cps.toList 0 x.cps.toList = [] by simpa using he, hwhole]
    · exact partsBetween_eq x _ _

theorem rep1_toList (x y z : Str) (hy : 1 ≤ y.length) (hk : y.cps.all (· < 256) = true) : (Txt.join z (Txt.split x y)).cps.toList = replW y.cps.toList z.cps.toList x.cps.toList := by
  unfold Txt.join
  rw [glued_eq_join, split_parts x y hy hk]
  have := parts_repl x y z hy x.length 0 0 (by omega) (Nat.le_refl _)
  simpa using this

theorem replW_one (c : Nat) (z : List Nat) : ∀ l : List Nat, replW [c] z l = l.flatMap fun d => if d = c then z else [d]
  | [] => by rw [replW_nil]; rfl
  | d :: t => by
    rw [replW_cons, List.flatMap_cons]
    by_cases h : d = c
    · rw [if_pos (by simp [h]), if_pos h]
      simp only [List.length_cons, List.length_nil, Nat.zero_add, Nat.sub_self, List.drop_zero]
      rw [replW_one c z t]
    · rw [if_neg (by simpa using h), if_neg h, replW_one c z t]
      rfl
end Mine

end
section
open PySem PySem.Builtin PySem.Builtin.Str PySem.StrLaws
namespace Mine

def letter (b : Bool) : Nat := if b then 98 else 97
def stB (l : List Bool) : Str := ⟨(l.map letter).toArray⟩
def cM (p a c b : Bool) : Bool := if a = p ∧ c = !p then p else if c = p ∧ b = !p then !p else c
def cV (a c b : Bool) : Bool := (a && c) || (a && b) || (c && b)
def mvI (p : Bool) (l : List Bool) : List Bool := (List.range l.length).map fun k => cM p (l.getD ((k + l.length - 1) % l.length) false) (l.getD k false) (l.getD ((k + 1) % l.length) false)
def vtI (l : List Bool) : List Bool := (List.range l.length).map fun k => cV (l.getD ((k + l.length - 1) % l.length) false) (l.getD k false) (l.getD ((k + 1) % l.length) false)
theorem mvI_len (p : Bool) (l : List Bool) : (mvI p l).length = l.length := by simp [mvI]
theorem vtI_len (l : List Bool) : (vtI l).length = l.length := by simp [vtI]
def itr {α : Type} (f : α → α) : Nat → α → α
  | 0, x => x
  | n + 1, x => f (itr f n x)
/-- the ring behind j rounds -/
def ringAt (p : Bool) (h : Nat) (l : List Bool) (j : Nat) : List Bool := if j ≤ h then itr (mvI p) j l else itr vtI (j - h) (itr (mvI p) h l)
theorem itr_len {f : List Bool → List Bool} (hf : ∀ l, (f l).length = l.length) : ∀ n l, (itr f n l).length = l.length
  | 0, _ => rfl
  | n + 1, l => by rw [itr, hf, itr_len hf n l]
theorem ringAt_len (p : Bool) (h : Nat) (l : List Bool) (j : Nat) : (ringAt p h l j).length = l.length := by
  unfold ringAt; split
  · exact itr_len (mvI_len p) _ _
  · rw [itr_len vtI_len, itr_len (mvI_len p)]
theorem ringAt_zero (p : Bool) (h : Nat) (l : List Bool) : ringAt p h l 0 = l := by simp [ringAt, itr]
theorem ringAt_mv (p : Bool) (h : Nat) (l : List Bool) (j : Nat) (hj : j < h) : ringAt p h l (j + 1) = mvI p (ringAt p h l j) := by
  unfold ringAt; rw [if_pos (by omega), if_pos (by omega)]; rfl
theorem ringAt_vt (p : Bool) (h : Nat) (l : List Bool) (j : Nat) (hj : h ≤ j) : ringAt p h l (j + 1) = vtI (ringAt p h l j) := by
  unfold ringAt
  rw [if_neg (by omega), show j + 1 - h = (j - h) + 1 by omega]
  by_cases hjh : j ≤ h
  · obtain rfl : j = h := by omega
    rw [if_pos hjh]; simp [itr]
  · rw [if_neg hjh]; rfl

/-- the fronts change places, from the left -/
def swapB (p : Bool) : List Bool → List Bool
  | [] => []
  | [a] => [a]
  | a :: b :: t => if a = p ∧ b = !p then (!p) :: p :: swapB p t else a :: swapB p (b :: t)
theorem letter_inj {a b : Bool} : letter a = letter b ↔ a = b := by cases a <;> cases b <;> decide
theorem letter_ne (a : Bool) : letter a ≠ 45 := by cases a <;> decide

theorem repl_front (p : Bool) : ∀ (n : Nat) (l : List Bool), l.length ≤ n → replW [45] [letter (!p), letter p] (replW [letter p, letter (!p)] [45] (l.map letter)) = (swapB p l).map letter := by
  intro n
  induction n with
  | zero => intro l hl; have : l = [] := List.eq_nil_of_length_eq_zero (by omega)
            subst this; rw [List.map_nil, replW_nil, replW_nil]; rfl
  | succ n ih =>
    intro l hl
    match l with
    | [] => rw [List.map_nil, replW_nil, replW_nil]; rfl
    | [a] =>
      simp only [List.map_cons, List.map_nil, swapB]
      rw [replW_cons, if_neg (by simp), replW_nil, replW_one]
      simp [letter_ne]
    | a :: b :: t =>
      rw [List.map_cons, List.map_cons, replW_cons]
      by_cases h : a = p ∧ b = !p
      · obtain ⟨rfl, rfl⟩ := h
        rw [if_pos (by simp)]
        have e := ih t (by simp at hl; omega)
        rw [replW_one] at e ⊢
        simp only [List.length_cons, List.length_nil, Nat.zero_add, Nat.add_sub_cancel, List.drop_one, List.tail_cons, List.cons_append, List.nil_append, List.flatMap_cons, if_true]
        rw [show (replW [letter a, letter (!a)] [45] (List.map letter t)).flatMap (fun d => if d = 45 then [letter (!a), letter a] else [d]) = List.map letter (swapB a t) from e]
        simp [swapB]
      · rw [if_neg (by
          intro hm
          apply h
          simp only [List.length_cons, List.length_nil, List.take_succ_cons, List.take_zero, beq_iff_eq, List.cons.injEq, and_true] at hm
          exact ⟨letter_inj.mp hm.1, letter_inj.mp hm.2⟩)]
        have e := ih (b :: t) (by simp at hl ⊢; omega)
        rw [replW_one] at e ⊢
        rw [List.flatMap_cons, if_neg (letter_ne a)]
        rw [List.map_cons] at e
        rw [e, swapB, if_neg h]
        rfl

/-- the same, letter by letter -/
def locB (p : Bool) : Option Bool → List Bool → List Bool
  | _, [] => []
  | prev, c :: t => (if prev = some p ∧ c = !p then p else if c = p ∧ t.head? = some (!p) then !p else c) :: locB p (some c) t
theorem swap_loc (p : Bool) : ∀ (n : Nat) (l : List Bool) (prev : Option Bool), l.length ≤ n → ¬ (prev = some p ∧ l.head? = some (!p)) → swapB p l = locB p prev l := by
  intro n
  induction n with
  | zero => intro l prev hl _; have : l = [] := List.eq_nil_of_length_eq_zero (by omega)
            subst this; rfl
  | succ n ih =>
    intro l prev hl hp
    match l with
    | [] => rfl
    | [a] =>
      have : ¬ (prev = some p ∧ a = !p) := by simpa using hp
      simp [swapB, locB, this]
    | a :: b :: t =>
      have hpa : ¬ (prev = some p ∧ a = !p) := by simpa using hp
      by_cases h : a = p ∧ b = !p
      · obtain ⟨rfl, rfl⟩ := h
        rw [swapB, if_pos ⟨rfl, rfl⟩, locB, locB, if_neg hpa, if_pos ⟨rfl, rfl⟩, if_pos ⟨rfl, rfl⟩, ih t (some !a) (by simp at hl; omega) (by rintro ⟨h1, _⟩; cases a <;> simp at h1)]
      · rw [swapB, if_neg h, locB, if_neg hpa, if_neg (by simpa using h), ih (b :: t) (some a) (by simp at hl ⊢; omega) (by simpa using h)]

theorem locB_get (p : Bool) : ∀ (l : List Bool) (prev : Option Bool) (i : Nat) (c : Bool), l[i]? = some c →
    (locB p prev l)[i]? = some (if (if i = 0 then prev else l[i - 1]?) = some p ∧ c = !p then p else if c = p ∧ l[i + 1]? = some (!p) then !p else c)
  | [], _, _, _, h => by simp at h
  | d :: t, prev, 0, c, h => by
    simp at h; subst h
    simp [locB, List.head?_eq_getElem?]
  | d :: t, prev, i + 1, c, h => by
    have h' : t[i]? = some c := by simpa using h
    rw [locB, List.getElem?_cons_succ, locB_get p t (some d) i c h']
    congr 1
    cases i with
    | zero => simp
    | succ i => simp

theorem get3 {l : List Bool} {i : Nat} (hi : i < 3 * l.length) : (l ++ (l ++ l))[i]? = some (l.getD (i % l.length) false) := by
  have hl : 0 < l.length := by omega
  have hm : i % l.length < l.length := Nat.mod_lt _ hl
  have key : l[i % l.length]? = some (l.getD (i % l.length) false) := by simp [List.getD, hm]
  rcases Nat.lt_or_ge i l.length with h | h
  · rw [List.getElem?_append_left h, ← key, Nat.mod_eq_of_lt h]
  · rw [List.getElem?_append_right h]
    rcases Nat.lt_or_ge (i - l.length) l.length with h2 | h2
    · rw [List.getElem?_append_left h2, ← key, Nat.mod_eq_sub_mod h, Nat.mod_eq_of_lt h2]
    · rw [List.getElem?_append_right h2, ← key, Nat.mod_eq_sub_mod h, Nat.mod_eq_sub_mod h2, Nat.mod_eq_of_lt (by omega)]

theorem mid_third (p : Bool) (l : List Bool) : ((swapB p (l ++ (l ++ l))).drop l.length).take l.length = mvI p l := by
  have hlen : ∀ (m : List Bool) (prev : Option Bool), (locB p prev m).length = m.length := by
    intro m; induction m with
    | nil => intro; rfl
    | cons a t ih => intro prev; simp [locB, ih]
  rw [swap_loc p _ _ none (Nat.le_refl _) (by simp)]
  apply List.ext_getElem?
  intro k
  by_cases hk : k < l.length
  · rw [List.getElem?_take_of_lt hk, List.getElem?_drop, locB_get p _ none _ _ (get3 (i := l.length + k) (by omega)), get3 (i := l.length + k + 1) (by omega)]
    rw [if_neg (by omega : ¬ l.length + k = 0), get3 (i := l.length + k - 1) (by omega)]
    unfold mvI
    rw [List.getElem?_map, List.getElem?_range hk]
    simp only [Option.map_some, Option.some.injEq]
    rw [show (l.length + k) % l.length = k by rw [Nat.add_mod_left, Nat.mod_eq_of_lt hk], show (l.length + k + 1) % l.length = (k + 1) % l.length by rw [Nat.add_assoc, Nat.add_mod_left], show l.length + k - 1 = k + l.length - 1 by omega]
    rfl
  · rw [List.getElem?_eq_none (by rw [List.length_take, List.length_drop, hlen]; simp; omega), List.getElem?_eq_none (by rw [mvI_len]; omega)]

-- the same by the bits of a number
def tb (n x : Nat) : List Bool := (List.range n).map fun i => x.testBit i
def leftN (n x : Nat) : Nat := ((x <<< 1) ||| (x >>> (n - 1))) &&& (2 ^ n - 1)
def rightN (n x : Nat) : Nat := (x >>> 1) ||| ((x &&& 1) <<< (n - 1))
def mvN (p : Bool) (n x : Nat) : Nat := if p then (leftN n x &&& (x ^^^ (2 ^ n - 1))) ||| (x &&& rightN n x) else (x &&& leftN n x) ||| ((x ^^^ (2 ^ n - 1)) &&& rightN n x)
def vtN (n x : Nat) : Nat := (leftN n x &&& x) ||| (leftN n x &&& rightN n x) ||| (x &&& rightN n x)
theorem tb_get {n x i : Nat} (h : i < n) : (tb n x).getD i false = x.testBit i := by simp [tb, List.getD, h]
theorem tb_len (n x : Nat) : (tb n x).length = n := by simp [tb]
theorem left_bit {n x k : Nat} (hx : x < 2 ^ n) (hn : 0 < n) (hk : k < n) : (leftN n x).testBit k = x.testBit ((k + n - 1) % n) := by
  unfold leftN
  rw [Nat.testBit_and, Nat.testBit_or, Nat.testBit_shiftLeft, Nat.testBit_shiftRight, Nat.testBit_two_pow_sub_one]
  cases k with
  | zero => simp [hn, Nat.mod_eq_of_lt (by omega : 0 + n - 1 < n)]
  | succ k =>
    have h1 : x.testBit (n - 1 + (k + 1)) = false := Nat.testBit_lt_two_pow (Nat.lt_of_lt_of_le hx (Nat.pow_le_pow_right (by decide) (by omega)))
    rw [h1, show k + 1 + n - 1 = k + n by omega, Nat.add_mod_right, Nat.mod_eq_of_lt (by omega)]
    simp [hk]
theorem right_bit {n x k : Nat} (hx : x < 2 ^ n) (hn : 0 < n) (hk : k < n) : (rightN n x).testBit k = x.testBit ((k + 1) % n) := by
  unfold rightN
  rw [Nat.testBit_or, Nat.testBit_shiftLeft, Nat.testBit_shiftRight, Nat.testBit_and]
  rcases Nat.lt_or_ge (k + 1) n with h | h
  · rw [Nat.mod_eq_of_lt h, show (decide (k ≥ n - 1)) = false by simp; omega]
    simp [Nat.add_comm]
  · obtain rfl : n = k + 1 := by omega
    have h1 : x.testBit (1 + k) = false := Nat.testBit_lt_two_pow (by rw [Nat.add_comm]; exact hx)
    rw [h1, Nat.mod_self]
    simp
theorem not_bit {n x k : Nat} (hk : k < n) : (x ^^^ (2 ^ n - 1)).testBit k = !x.testBit k := by
  rw [Nat.testBit_xor, Nat.testBit_two_pow_sub_one]; simp [hk]
theorem left_lt (n x : Nat) : leftN n x < 2 ^ n := by
  unfold leftN; exact Nat.and_lt_two_pow _ (Nat.sub_lt (Nat.two_pow_pos n) (by decide))
theorem mvN_lt (p : Bool) {n x : Nat} (hx : x < 2 ^ n) : mvN p n x < 2 ^ n := by
  have hb : x ^^^ (2 ^ n - 1) < 2 ^ n := Nat.xor_lt_two_pow hx (Nat.sub_lt (Nat.two_pow_pos n) (by decide))
  unfold mvN; split
  · exact Nat.or_lt_two_pow (Nat.and_lt_two_pow _ hb) (by rw [Nat.and_comm]; exact Nat.and_lt_two_pow _ hx)
  · exact Nat.or_lt_two_pow (Nat.and_lt_two_pow _ (left_lt n x)) (by rw [Nat.and_comm]; exact Nat.and_lt_two_pow _ hb)
theorem vtN_lt {n x : Nat} (hx : x < 2 ^ n) : vtN n x < 2 ^ n := by
  unfold vtN
  exact Nat.or_lt_two_pow (Nat.or_lt_two_pow (Nat.and_lt_two_pow _ hx) (by rw [Nat.and_comm]; exact Nat.and_lt_two_pow _ (left_lt n x))) (by rw [Nat.and_comm]; exact Nat.and_lt_two_pow _ hx)
theorem mv_tb (p : Bool) {n x : Nat} (hx : x < 2 ^ n) (hn : 0 < n) : mvI p (tb n x) = tb n (mvN p n x) := by
  unfold mvI
  rw [tb_len]
  unfold tb
  apply List.map_congr_left
  intro k hk
  have hk' : k < n := List.mem_range.mp hk
  have h1 := tb_get (x := x) (Nat.mod_lt (k + n - 1) hn)
  have h2 := tb_get (x := x) hk'
  have h3 := tb_get (x := x) (Nat.mod_lt (k + 1) hn)
  unfold tb at h1 h2 h3
  rw [h1, h2, h3]
  unfold mvN
  cases p
  · simp only [Bool.false_eq_true, if_false]
    rw [Nat.testBit_or, Nat.testBit_and, Nat.testBit_and, left_bit hx hn hk', right_bit hx hn hk', not_bit hk']
    cases x.testBit ((k + n - 1) % n) <;> cases x.testBit k <;> cases x.testBit ((k + 1) % n) <;> rfl
  · simp only [if_true]
    rw [Nat.testBit_or, Nat.testBit_and, Nat.testBit_and, left_bit hx hn hk', right_bit hx hn hk', not_bit hk']
    cases x.testBit ((k + n - 1) % n) <;> cases x.testBit k <;> cases x.testBit ((k + 1) % n) <;> rfl
theorem vt_tb {n x : Nat} (hx : x < 2 ^ n) (hn : 0 < n) : vtI (tb n x) = tb n (vtN n x) := by
  unfold vtI
  rw [tb_len]
  unfold tb
  apply List.map_congr_left
  intro k hk
  have hk' : k < n := List.mem_range.mp hk
  have h1 := tb_get (x := x) (Nat.mod_lt (k + n - 1) hn)
  have h2 := tb_get (x := x) hk'
  have h3 := tb_get (x := x) (Nat.mod_lt (k + 1) hn)
  unfold tb at h1 h2 h3
  rw [h1, h2, h3]
  unfold vtN cV
  rw [Nat.testBit_or, Nat.testBit_or, Nat.testBit_and, Nat.testBit_and, Nat.testBit_and, left_bit hx hn hk', right_bit hx hn hk']
theorem itr_tb {f : List Bool → List Bool} {g : Nat → Nat} {n : Nat} (hf : ∀ x, x < 2 ^ n → f (tb n x) = tb n (g x)) (hg : ∀ x, x < 2 ^ n → g x < 2 ^ n) : ∀ k x, x < 2 ^ n → itr f k (tb n x) = tb n (itr g k x) ∧ itr g k x < 2 ^ n
  | 0, x, hx => ⟨rfl, hx⟩
  | k + 1, x, hx => by
    obtain ⟨h1, h2⟩ := itr_tb hf hg k x hx
    exact ⟨by rw [itr, h1, hf _ h2]; rfl, hg _ h2⟩

def cntN : Nat → Nat → Nat
  | 0, _ => 0
  | n + 1, x => x % 2 + cntN n (x / 2)
def finN (p : Bool) (n x : Nat) : Nat := itr (vtN n) (n / 2) (itr (mvN p n) (n / 2) x)
def okN (p : Bool) (n x : Nat) : Bool :=
  bif Nat.blt (2 * cntN n x) n then Nat.beq (finN p n x) 0 else bif Nat.blt n (2 * cntN n x) then Nat.beq (finN p n x) (2 ^ n - 1) else (Nat.beq (finN p n x) ((2 ^ n - 1) / 3) || Nat.beq (finN p n x) (2 * ((2 ^ n - 1) / 3)))
def allN : Nat → (Nat → Bool) → Bool
  | 0, _ => true
  | k + 1, f => f k && allN k f
theorem allN_get {f : Nat → Bool} : ∀ {k : Nat}, allN k f = true → ∀ {i : Nat}, i < k → f i = true
  | 0, _, _, h => by omega
  | k + 1, ha, i, h => by
    rw [allN, Bool.and_eq_true] at ha
    rcases Nat.lt_or_ge i k with h' | h'
    · exact allN_get ha.2 h'
    · obtain rfl : i = k := by omega
      exact ha.1
def chkN (m : Nat) : Bool := allN (2 ^ m) fun x => okN true (7 + m) (75 + 128 * x) && okN false (7 + m) (75 + 128 * x)
theorem chk0 : chkN 0 = true := by decide +kernel
theorem chk1 : chkN 1 = true := by decide +kernel
theorem chk2 : chkN 2 = true := by decide +kernel
theorem chk3 : chkN 3 = true := by decide +kernel
theorem chk4 : chkN 4 = true := by decide +kernel
theorem chk5 : chkN 5 = true := by decide +kernel
theorem chk6 : chkN 6 = true := by decide +kernel
theorem chk7 : chkN 7 = true := by decide +kernel
theorem chk8 : chkN 8 = true := by decide +kernel
end Mine

end
section
open PySem PySem.Builtin PySem.Builtin.Str PySem.StrLaws PyProof.Rows
namespace Mine

/-- the order of texts -/
def leS (a b : Str) : Prop := a.cps.toList ≤ b.cps.toList
theorem leS_antisymm {a b : Str} (h : leS a b) (h' : leS b a) : a = b := by
  have := List.le_antisymm h h'
  obtain ⟨a⟩ := a; obtain ⟨b⟩ := b
  exact congrArg Str.mk (Array.toList_inj.mp this)
theorem rising_pairwise : ∀ (l : List Str) (p : Str), risingS p l = true → (p :: l).Pairwise leS
  | [], p, _ => by simp
  | x :: r, p, h => by
    rw [risingS, Bool.and_eq_true, Bool.not_eq_true', ltCps_eq, decide_eq_false_iff_not] at h
    have ih := rising_pairwise r x h.2
    refine List.Pairwise.cons (fun y hy => ?_) ih
    have hpx : leS p x := h.1
    rcases List.mem_cons.mp hy with rfl | hy
    · exact hpx
    · exact List.le_trans hpx ((List.pairwise_cons.mp ih).1 y hy)
theorem sorted_pairwise {l : List Str} (h : sortedS l = true) : l.Pairwise leS := by
  cases l with
  | nil => exact .nil
  | cons x r => exact rising_pairwise r x h
/-- the one rising order -/
theorem sorted_unique {xs ys ys' : List Str} (hp : ys.Perm xs) (hs : ys.Pairwise leS) : ys'.Perm xs → sortedS ys' = true → ys' = ys :=
  fun hp' hs' => List.Perm.eq_of_pairwise (le := leS) (fun a b _ _ h h' => leS_antisymm h h') (sorted_pairwise hs') hs (hp'.trans hp.symm)

/-- one letter as a text -/
def l1 (b : Bool) : Str := ⟨#[letter b]⟩
theorem letters_stB (l : List Bool) : letters (stB l) = l.map l1 := by simp [letters, stB, l1, Function.comp_def]
theorem leS_l1 : ∀ {a b : Bool}, (a = true → b = true) → leS (l1 a) (l1 b) := by
  intro a b h
  cases a <;> cases b
  · exact List.le_refl _
  · show ¬ ([98] < [97]); decide
  · exact absurd (h rfl) (by decide)
  · exact List.le_refl _
/-- a's first, then b's -/
def ab (l : List Bool) : List Bool := List.replicate (l.length - l.count true) false ++ List.replicate (l.count true) true
theorem ab_len (l : List Bool) : (ab l).length = l.length := by
  have := List.count_le_length (a := true) (l := l)
  simp [ab]; omega
theorem ab_perm (l : List Bool) : (ab l).Perm l := by
  rw [List.perm_iff_count]
  intro b
  have h := List.count_le_length (a := true) (l := l)
  have h2 : l.count false + l.count true = l.length := by
    induction l with
    | nil => rfl
    | cons c t ih =>
      have ih := ih List.count_le_length
      cases c <;> simp [List.count_cons] <;> omega
  cases b
  · simp [ab, List.count_append, List.count_replicate]; omega
  · simp [ab, List.count_append, List.count_replicate]
theorem ab_sorted (l : List Bool) : ((ab l).map l1).Pairwise leS := by
  rw [List.pairwise_map]
  unfold ab
  rw [List.pairwise_append]
  refine ⟨?_, ?_, ?_⟩
  · exact List.pairwise_replicate.mpr (.inr (leS_l1 (fun h => h)))
  · exact List.pairwise_replicate.mpr (.inr (leS_l1 (fun h => h)))
  · intro a ha b hb
    rw [List.eq_of_mem_replicate ha, List.eq_of_mem_replicate hb]
    exact leS_l1 (fun h => by cases h)
theorem letters_sorted (l : List Bool) : ∀ ys', ys'.Perm (l.map l1) → sortedS ys' = true → ys' = (ab l).map l1 :=
  fun ys' => sorted_unique ((ab_perm l).map l1) (ab_sorted l)
theorem ab_get {l : List Bool} {i : Nat} (hi : i < l.length) : ((ab l).map l1)[i]? = some (l1 (decide (l.length - l.count true ≤ i))) := by
  have h := List.count_le_length (a := true) (l := l)
  rw [List.getElem?_map]
  unfold ab
  by_cases hc : i < l.length - l.count true
  · rw [List.getElem?_append_left (by simpa using hc), List.getElem?_replicate, if_pos hc, show (decide (l.length - l.count true ≤ i)) = false by simp; omega]
    rfl
  · rw [List.getElem?_append_right (by simpa using hc), List.getElem?_replicate, if_pos (by simp; omega), show (decide (l.length - l.count true ≤ i)) = true by simp; omega]
    rfl

-- numbers for words
def code : List Bool → Nat
  | [] => 0
  | b :: t => b.toNat + 2 * code t
theorem code_lt : ∀ l : List Bool, code l < 2 ^ l.length
  | [] => by decide
  | b :: t => by
    have := code_lt t
    have hb : b.toNat ≤ 1 := by cases b <;> decide
    rw [code, List.length_cons, Nat.pow_succ]; omega
theorem tb_code : ∀ l : List Bool, tb l.length (code l) = l
  | [] => rfl
  | b :: t => by
    have ih := tb_code t
    unfold tb at ih ⊢
    rw [List.length_cons, List.range_succ_eq_map, List.map_cons, List.map_map]
    have h0 : (code (b :: t)).testBit 0 = b := by rw [Nat.testBit_zero, code]; cases b <;> simp <;> omega
    rw [h0]
    congr 1
    rw [← ih]
    conv => rhs; rw [show List.range t.length = List.range t.length from rfl]
    rw [ih]
    conv => rhs; rw [← ih]
    apply List.map_congr_left
    intro i _
    show (code (b :: t)).testBit (i + 1) = _
    rw [Nat.testBit_succ, code, show (b.toNat + 2 * code t) / 2 = code t by cases b <;> simp <;> omega]
theorem cnt_code : ∀ l : List Bool, cntN l.length (code l) = l.count true
  | [] => rfl
  | b :: t => by
    rw [List.length_cons, cntN, code, show (b.toNat + 2 * code t) / 2 = code t by cases b <;> simp <;> omega, cnt_code t, show (b.toNat + 2 * code t) % 2 = b.toNat by cases b <;> simp <;> omega, List.count_cons]
    cases b <;> simp <;> omega
theorem code_append : ∀ (a b : List Bool), code (a ++ b) = code a + 2 ^ a.length * code b
  | [], b => by simp [code]
  | x :: t, b => by
    rw [List.cons_append, code, code, code_append t b, List.length_cons, Nat.pow_succ]
    rw [Nat.mul_add, ← Nat.mul_assoc, Nat.mul_comm 2 (2 ^ t.length)]
    omega

def base : List Bool := [true, true, false, true, false, false, true]
theorem okN_all (p : Bool) (t : List Bool) (ht : t.length ≤ 8) : okN p (7 + t.length) (code (base ++ t)) = true := by
  have hc : code (base ++ t) = 75 + 128 * code t := by rw [code_append]; rfl
  have key : ∀ m, t.length = m → chkN m = true → okN p (7 + t.length) (75 + 128 * code t) = true := by
    intro m hm h
    have hlt : code t < 2 ^ m := hm ▸ code_lt t
    have := allN_get h hlt
    rw [Bool.and_eq_true] at this
    rw [hm]
    cases p
    · exact this.2
    · exact this.1
  rw [hc]
  have : t.length = 0 ∨ t.length = 1 ∨ t.length = 2 ∨ t.length = 3 ∨ t.length = 4 ∨ t.length = 5 ∨ t.length = 6 ∨ t.length = 7 ∨ t.length = 8 := by omega
  rcases this with h | h | h | h | h | h | h | h | h
  · exact key _ h chk0
  · exact key _ h chk1
  · exact key _ h chk2
  · exact key _ h chk3
  · exact key _ h chk4
  · exact key _ h chk5
  · exact key _ h chk6
  · exact key _ h chk7
  · exact key _ h chk8

theorem ring_fin (p : Bool) (l : List Bool) (hn : 2 ≤ l.length) : ringAt p (l.length / 2) l (2 * (l.length / 2)) = tb l.length (finN p l.length (code l)) := by
  unfold ringAt finN
  rw [if_neg (by omega), show 2 * (l.length / 2) - l.length / 2 = l.length / 2 by omega]
  have h1 := itr_tb (fun x hx => mv_tb p hx (by omega)) (fun x hx => mvN_lt p hx) (l.length / 2) (code l) (code_lt l)
  rw [tb_code] at h1
  rw [h1.1]
  exact (itr_tb (fun x hx => vt_tb hx (by omega)) (fun x hx => vtN_lt hx) (l.length / 2) _ h1.2).1
theorem tb_zero (n : Nat) : tb n 0 = List.replicate n false := by
  unfold tb
  rw [List.eq_replicate_iff]
  exact ⟨by simp, fun b hb => by simp at hb; exact hb.2⟩
theorem tb_ones (n : Nat) : tb n (2 ^ n - 1) = List.replicate n true := by
  unfold tb
  rw [List.eq_replicate_iff]
  refine ⟨by simp, fun b hb => ?_⟩
  rw [List.mem_map] at hb
  obtain ⟨i, hi, rfl⟩ := hb
  rw [Nat.testBit_two_pow_sub_one]
  simpa using hi

/-- behind all rounds -/
theorem final_ring (p : Bool) (t : List Bool) (ht : t.length ≤ 8) (l : List Bool) (hl : l = base ++ t) :
    (2 * l.count true < l.length → ringAt p (l.length / 2) l (2 * (l.length / 2)) = List.replicate l.length false) ∧
    (l.length < 2 * l.count true → ringAt p (l.length / 2) l (2 * (l.length / 2)) = List.replicate l.length true) ∧
    (2 * l.count true = l.length → ringAt p (l.length / 2) l (2 * (l.length / 2)) = tb l.length ((2 ^ l.length - 1) / 3) ∨ ringAt p (l.length / 2) l (2 * (l.length / 2)) = tb l.length (2 * ((2 ^ l.length - 1) / 3))) := by
  have hlen : l.length = 7 + t.length := by rw [hl, List.length_append]; rfl
  rw [ring_fin p l (by omega)]
  have h := okN_all p t ht
  rw [← hl, ← hlen] at h
  unfold okN at h
  rw [cnt_code] at h
  refine ⟨fun hc => ?_, fun hc => ?_, fun hc => ?_⟩
  · rw [show (2 * l.count true).blt l.length = true by simpa [Nat.blt_eq] using hc] at h
    rw [Nat.eq_of_beq_eq_true h, tb_zero]
  · rw [show (2 * l.count true).blt l.length = false by rw [Bool.eq_false_iff]; simp only [ne_eq, Nat.blt_eq]; omega, show l.length.blt (2 * l.count true) = true by simpa [Nat.blt_eq] using hc] at h
    rw [Nat.eq_of_beq_eq_true h, tb_ones]
  · rw [show (2 * l.count true).blt l.length = false by rw [Bool.eq_false_iff]; simp only [ne_eq, Nat.blt_eq]; omega, show l.length.blt (2 * l.count true) = false by rw [Bool.eq_false_iff]; simp only [ne_eq, Nat.blt_eq]; omega] at h
    simp only [cond_false, Bool.or_eq_true] at h
    rcases h with h | h
    · exact .inl (by rw [Nat.eq_of_beq_eq_true h])
    · exact .inr (by rw [Nat.eq_of_beq_eq_true h])
end Mine

end
section
namespace Mine

section
variable {prog : Program} {w : World} {A : Around} {env : Env} {h₀ : Heap} {md : Addr → Prop} {ρ ρc : Locs} {X : Heap → Prop} {δ : Type}

theorem getD_of {α : Type} {l : List α} {i : Nat} {a d : α} (h : l[i]? = some a) : l.getD i d = a := by simp [List.getD, h]
theorem map_get {α β : Type} {g : α → β} {l : List α} {i : Nat} {b : β} (h : (l.map g)[i]? = some b) : ∃ a, l[i]? = some a ∧ b = g a := by
  rw [List.getElem?_map] at h
  cases ha : l[i]? with
  | none => rw [ha] at h; cases h
  | some a => rw [ha] at h; exact ⟨a, rfl, (Option.some.inj h).symm⟩

/-- a comprehension over data: each d gives g d -/
theorem ev_compD {elt iter : Expr} {x : Str} {px : Pos} {scope : Scope} {cl : List (Str × Addr)} {pos : Pos} {hX : OnMd md X} (ds : List δ) (den g : δ → VP) (K : Caps env scope cl ρ ρc)
    (hit : EvIt prog w A env (frHP env h₀ ρ md X hX) iter (ds.map den)) (hx : scope.names.lookup x = some .local)
    (he : ∀ d C, d ∈ ds → Ev prog w A (compEnvC scope cl C env) (frHP (compEnvC scope cl C env) h₀ ((x, den d) :: ρc) md X hX) elt (g d))
    (hsz : ds.length ≤ sizeLine) (hs : ∀ x, foldedSetIterable iter env x = pure x := by intro _; kernel_rfl!) :
    Ev prog w A env (frHP env h₀ ρ md X hX) (.ListComp elt [⟨.Name x px, iter, [], 0⟩] scope pos) (VList (ds.map g)) := by
  refine ev_comp (fun i => (x, (ds.map den).getD i VNone) :: ρc) K hit (by simp) (fun i V C hV => ?_) (fun i W' C hW => ?_) (by simpa using hsz) (fun _ _ => rfl) hs
  · rw [getD_of hV]
    exact binds_name K.kind (lookup_relabel_local hx)
  · obtain ⟨d, hd, rfl⟩ := map_get hW
    have := he d C (List.mem_of_getElem? hd)
    rw [show (ds.map den).getD i VNone = den d from getD_of (by rw [List.getElem?_map, hd]; rfl)]
    exact this

/-- a name bound to such a one -/
theorem ht_assign_compD {elt iter : Expr} {x y : Str} {px py : Pos} {scope : Scope} {cl : List (Str × Addr)} {pos spos : Pos} {hX : OnMd md X} (ds : List δ) (den g : δ → VP) (f : Fx env h₀ md) (K : Caps env scope cl ρ ρc)
    (hit : EvIt prog w A env (frHP env h₀ ρ md X hX) iter (ds.map den)) (hx : scope.names.lookup x = some .local)
    (he : ∀ d C, d ∈ ds → Ev prog w A (compEnvC scope cl C env) (frHP (compEnvC scope cl C env) h₀ ((x, den d) :: ρc) md X hX) elt (g d))
    (hy : env.kindOf y = some .local ∨ (env.kindOf y = some .cell ∧ ∃ c, env.cells.lookup y = some c)) (hsz : ds.length ≤ sizeLine)
    (hsw : swapsWith (.ListComp elt [⟨.Name x px, iter, [], 0⟩] scope pos) (some (.Name y py)) spos.line env = pure true := by kernel_rfl!)
    (hs : ∀ x, foldedSetIterable iter env x = pure x := by intro _; kernel_rfl!) :
    HT prog w A env h₀ md ρ X (exec (.Assign [.Name y py] (.ListComp elt [⟨.Name x px, iter, [], 0⟩] scope pos) spos) env) ((y, VList (ds.map g)) :: ρ) X := by
  refine ht_assign_comp (fun i => (x, (ds.map den).getD i VNone) :: ρc) f K hit (by simp) (fun i V C hV => ?_) (fun i W' C hW => ?_) hy hsw (by simpa using hsz) tgt_name hs
  · rw [getD_of hV]
    exact binds_name K.kind (lookup_relabel_local hx)
  · obtain ⟨d, hd, rfl⟩ := map_get hW
    have := he d C (List.mem_of_getElem? hd)
    rw [show (ds.map den).getD i VNone = den d from getD_of (by rw [List.getElem?_map, hd]; rfl)]
    exact this

/-- the frame of a comprehension's turn -/
theorem cx_comp {defs : List DefItem} {names : List Str} {scope : Scope} {cl : List (Str × Addr)} {C : Addr} (x : Cx A env h₀ defs names) (hk : scope.kind = .function) : Cx A (compEnvC scope cl C env) h₀ defs names :=
  ⟨hk, x.globals, x.builtins, x.handled, x.glob⟩
end

-- a list that may change, of texts
/-- the list R holds the texts xs -/
def XS (R : Addr) (xs : List Str) (h : Heap) : Prop := ∃ vs, h.PlainList R vs ∧ StrsAre vs.toList xs
theorem xs_on (R : Addr) (xs : List Str) : OnMd (fun b => b = R) (XS R xs) := fun h h' ⟨vs, ⟨n, e⟩, hs⟩ k => ⟨vs, ⟨n, k R _ rfl e⟩, hs⟩
theorem strsAre_get : ∀ {vs : List Value} {xs : List Str}, StrsAre vs xs → ∀ {i : Nat} {x : Str}, xs[i]? = some x → ∃ t, vs[i]? = some (.str x t)
  | _, _, .nil, i, x, h => by simp at h
  | _, _, .cons y t r, 0, x, h => by simp at h; subst h; exact ⟨t, by simp⟩
  | _, _, .cons y t r, i + 1, x, h => by simpa using strsAre_get r (by simpa using h)
theorem strsAre_len : ∀ {vs : List Value} {xs : List Str}, StrsAre vs xs → vs.length = xs.length
  | _, _, .nil => rfl
  | _, _, .cons _ _ r => by simp [strsAre_len r]
theorem strsAre_snoc {x : Str} {t : Tok} : ∀ {vs : List Value} {xs : List Str}, StrsAre vs xs → StrsAre (vs ++ [.str x t]) (xs ++ [x])
  | _, _, .nil => .cons _ _ .nil
  | _, _, .cons y u r => .cons y u (strsAre_snoc r)

section
variable {prog : Program} {w : World} {A : Around} {s : Shared} {av : Addr → Prop} {R : Addr} {xs : List Str} {x : Str}
theorem op_itemR {value slice : Expr} {a b : Value} {k : Int} (ha : (VRef R).P av s.heap a) (hX : XS R xs s.heap) (hb : (VInt k).P av s.heap b) (h0 : 0 ≤ k) (hk : k < 2 ^ 63) (hx : xs[k.toNat]? = some x)
    (hs : ∀ o i, subscripted slice false o i = operate [o, i] (getItem o i)) : Op prog w A (subscriptTail value slice a b) s ((VStr x).P av) := by
  obtain rfl : a = .ref R := ha
  obtain ⟨t, rfl⟩ := hb
  obtain ⟨vs, hpl, hst⟩ := hX
  obtain ⟨u, hv⟩ := strsAre_get hst hx
  exact fun E Q hq => tail_any hpl.isList.typeIs slot_list_getitem.lookup (wpAny_getItem_list hpl.isList h0 hk (by simpa using hv) (hq _ _ ⟨u, rfl⟩ (Kps.refl _))) (hs _ _)
theorem op_itemRneg {value slice : Expr} {a b : Value} {k : Int} (ha : (VRef R).P av s.heap a) (hX : XS R xs s.heap) (hb : (VInt k).P av s.heap b) (h0 : k < 0) (h1 : -(xs.length : Int) ≤ k) (hk : -(2 ^ 63) ≤ k) (hx : xs[(k + xs.length).toNat]? = some x)
    (hs : ∀ o i, subscripted slice false o i = operate [o, i] (getItem o i)) : Op prog w A (subscriptTail value slice a b) s ((VStr x).P av) := by
  obtain rfl : a = .ref R := ha
  obtain ⟨t, rfl⟩ := hb
  obtain ⟨vs, hpl, hst⟩ := hX
  obtain ⟨u, hv⟩ := strsAre_get hst hx
  have e : vs.size = xs.length := by rw [← strsAre_len hst]; simp
  exact fun E Q hq => tail_any hpl.isList.typeIs slot_list_getitem.lookup (wpAny_getItem_list_neg (x := .str x u) hpl.isList h0 (by rw [e]; exact h1) hk (by rw [e]; simpa using hv) (hq _ _ ⟨u, rfl⟩ (Kps.refl _))) (hs _ _)
end

section
variable {prog : Program} {w : World} {A : Around} {env : Env} {h₀ : Heap} {ρ : Locs} {R : Addr} {xs : List Str} {x : Str}
theorem ht_appendS {r : Str} {np apos pos epos : Pos} {elt : Expr} (f : Fx env h₀ (fun b => b = R)) (hr : ρ.lookup r = some (VRef R)) (hsz : xs.length ≤ 1000) (he : Ev prog w A env (frHP env h₀ ρ (fun b => b = R) (XS R xs) (xs_on R xs)) elt (VStr x))
    (hd : (r == ("__debug__" : Str)) = false := by kernel_rfl!) (hbase : attributeBase (.Name r np) "append" env (eval (.Name r np) env) = eval (.Name r np) env := by kernel_rfl!)
    (hfew : ((backTo pos (starEach [elt] env)).all (fun x => !x.1) && (backToKw pos (keywordEach [] env)).all (fun x => x.1.isSome)
      && decide (([elt] : List Expr).length + ([] : List Keyword).length + (if ([] : List Keyword).isEmpty then 0 else 1) < 30)) = true := by kernel_rfl!)
    (hline : (apos.endLine == pos.line) = true := by kernel_rfl!) (htrees : backTo pos (starEach [elt] env) = [(false, eval elt env)] := by kernel_rfl!)
    (hi : interactive env = false := by kernel_rfl!) (hs : swapsWith (.Call (.Attribute (.Name r np) "append" apos) [elt] [] pos) none epos.line env = pure false := by kernel_rfl!) :
    HT prog w A env h₀ (fun b => b = R) ρ (XS R xs) (exec (.Expr (.Call (.Attribute (.Name r np) "append" apos) [elt] [] pos) epos) env) ρ (XS R (xs ++ [x])) := by
  refine ht_append f hr rfl he (fun h hX => ?_) (fun h h' vs v av hX hpl hv hpl' _ => ?_) hd hbase hfew hline htrees hi hs
  · obtain ⟨vs, hpl, hst⟩ := hX
    refine ⟨vs, hpl, ?_⟩
    have := strsAre_len hst
    rw [sizeLine_eq, ← Array.length_toList, this]; omega
  · obtain ⟨vs', ⟨n', e'⟩, hst⟩ := hX
    obtain ⟨n, e⟩ := hpl
    rw [e] at e'
    have : vs' = vs := by cases e'; rfl
    subst this
    obtain ⟨t, rfl⟩ := hv
    exact ⟨_, hpl', by simpa using strsAre_snoc hst⟩
end

/-- a for over range(n) -/
theorem ht_for_range {prog : Program} {w : World} {A : Around} {env : Env} {h₀ : Heap} {md : Addr → Prop} {ρ₀ : Locs} {X₀ : Heap → Prop} {x : Str} {px pos np rp : Pos} {e : Expr} {body : List Stmt} {hX₀ : OnMd md X₀} (n : Nat) (ρ : Nat → Locs) (X : Nat → Heap → Prop) (f : Fx env h₀ md) (hX : ∀ i, OnMd md (X i))
    (hh : A.handled = none) (hf : Ev prog w A env (frHP env h₀ ρ₀ md X₀ hX₀) (.Name "range" np) (VEq (.type "range"))) (he : Ev prog w A env (frHP env h₀ ρ₀ md X₀ hX₀) e (VInt n)) (hn : n ≤ 1000)
    (hρ0 : ∀ p ∈ ρ 0, ρ₀.lookup p.1 = some p.2) (hX0 : ∀ h, X₀ h → X 0 h)
    (hx : env.kindOf x = some .local ∨ (env.kindOf x = some .cell ∧ ∃ c, env.cells.lookup x = some c))
    (hbody : ∀ i, i < n → HT prog w A env h₀ md ((x, VInt i) :: ρ i) (X i) (execs body env) (ρ (i + 1)) (X (i + 1)))
    (hse : starEach [e] env = [(false, eval e env)] := by kernel_rfl!)
    (hs : ∀ x, foldedSetIterable (.Call (.Name "range" np) [e] [] rp) env x = pure x := by intro _; kernel_rfl!) :
    HT prog w A env h₀ md ρ₀ X₀ (exec (.For (.Name x px) (.Call (.Name "range" np) [e] [] rp) body [] pos) env) (ρ n) (X n) := by
  have key := ht_for (prog := prog) (w := w) (A := A) (env := env) (h₀ := h₀) (md := md) (ρ₀ := ρ₀) (X₀ := X₀) (hX₀ := hX₀) (x := x) (px := px) (pos := pos) (body := body) (iter := .Call (.Name "range" np) [e] [] rp) (Vs := (List.range n).map fun (i : Nat) => VInt i)
    ρ X f hX (it_range hh hf he (by omega) hse) hρ0 hX0 hx (fun i V hV => ?_) hs
  · rw [List.length_map, List.length_range] at key
    exact key
  · obtain ⟨j, hj, rfl⟩ := map_get hV
    have hi : i < n := by
      rcases Nat.lt_or_ge i n with h | h
      · exact h
      · rw [List.getElem?_eq_none (by simpa using h)] at hj; cases hj
    rw [List.getElem?_range hi] at hj
    obtain rfl := Option.some.inj hj
    exact hbody i hi
end Mine

end
section
namespace Mine

theorem lk_head {x : Str} {V : VP} {ρ : Locs} : List.lookup x ((x, V) :: ρ) = some V := List.lookup_cons_self
theorem lk_tail {x y : Str} {V W : VP} {ρ : Locs} (h : (x == y) = false) (h' : List.lookup x ρ = some V) : List.lookup x ((y, W) :: ρ) = some V := by rw [List.lookup_cons, h]; exact h'
local macro_rules | `(tactic| walk_at "lk") => `(tactic| (repeat (first | with_reducible exact lk_head | refine lk_tail (by kernel_rfl!) ?_)))
local macro_rules | `(tactic| walk_at "kd") => `(tactic| kernel_rfl!)

def dLaw1 : DefItem := sItem (nth P1 7)
def bit (n : Int) : Bool := decide (n.fmod 2 = 1)
def nums1 (ns : List Int) : List Int := [1, 1, 0, 1, 0, 0, 1] ++ ns.take 8
def bits1 (ns : List Int) : List Bool := (nums1 ns).map bit
theorem bits1_eq (ns : List Int) : bits1 ns = base ++ (ns.take 8).map bit := by unfold bits1 nums1; rw [List.map_append]; rfl
theorem bits1_len (ns : List Int) : (bits1 ns).length = 7 + min 8 ns.length := by rw [bits1_eq, List.length_append, List.length_map, List.length_take]; rfl

theorem glued_nil (ps : List Str) : (Txt.join "" ps).cps.toList = (ps.map (·.cps.toList)).flatten := by
  unfold Txt.join
  rw [StrLaws.glued_eq_join]
  induction ps with
  | nil => rfl
  | cons p r ih =>
    cases r with
    | nil => simp [Str.join]
    | cons q r => rw [join_toList_cons, ih]; simp [show (Str.ofString "").cps.toList = [] from by decide +kernel]
theorem str_ext {a b : Str} (h : a.cps.toList = b.cps.toList) : a = b := by
  obtain ⟨a⟩ := a; obtain ⟨b⟩ := b
  exact congrArg Str.mk (Array.toList_inj.mp h)
theorem join_l1 (l : List Bool) : Txt.join "" (l.map l1) = stB l := by
  apply str_ext
  rw [glued_nil]
  induction l with
  | nil => rfl
  | cons b t ih =>
    rw [List.map_cons, List.map_cons, List.flatten_cons, ih]
    simp [stB, l1]
theorem sum_l1 (l : List Bool) : ((l.map l1).map (·.length)).sum = l.length := by
  induction l with
  | nil => rfl
  | cons b t ih => simp only [List.map_cons, List.sum_cons, List.length_cons, ih]; show 1 + _ = _; omega
theorem joinOk_l1 {l : List Bool} (h : l.length ≤ 1000) : JoinOk "" (l.map l1) = true := by
  unfold JoinOk
  rw [StrLaws.joinTotal, sum_l1]
  simp only [show (Str.ofString "").length = 0 from by decide +kernel, Nat.mul_zero, Nat.add_zero, Bool.not_eq_true']
  unfold Builtin.Str.tooLong
  rw [sizeLine_eq]
  simp; omega

section
variable {prog : Program} {w : World} {A : Around} {L f : Addr} {cd : Value} {h₀ : Heap} {defs : List DefItem} {names : List Str}
abbrev E1 (L f : Addr) (cd : Value) : Env := envOfC dLaw1.name dLaw1.scope L f cd

theorem cel1 (hL : h₀.objs.size ≤ L) : CelOk (E1 L f cd) h₀ := by
  have hc : (E1 L f cd).cells = [(("ring" : Str), L + 1 + 1), (("size" : Str), L + 1)] := by rfl
  have hnew : ∀ a, L ≤ a → h₀.get? a = none := fun a ha => by
    cases e : h₀.get? a with
    | none => rfl
    | some o => exact absurd (Heap.lt_size e) (Nat.not_lt.mpr (Nat.le_trans hL ha))
  have cases2 : ∀ n c, (E1 L f cd).cells.lookup n = some c → (n = "ring" ∧ c = L + 1 + 1) ∨ (n = "size" ∧ c = L + 1) := by
    intro n c h
    rw [hc, List.lookup_cons] at h
    by_cases h1 : n = "ring"
    · rw [show (n == Str.ofString "ring") = true by simpa using h1] at h; exact .inl ⟨h1, (Option.some.inj h).symm⟩
    · rw [show (n == Str.ofString "ring") = false by simpa using h1, List.lookup_cons] at h
      by_cases h2 : n = "size"
      · rw [show (n == Str.ofString "size") = true by simpa using h2] at h; exact .inr ⟨h2, (Option.some.inj h).symm⟩
      · rw [show (n == Str.ofString "size") = false by simpa using h2] at h; cases h
  refine ⟨fun n n' c h h' => ?_, fun n c h => ?_, fun n c h => ?_⟩
  · rcases cases2 n c h with ⟨rfl, rfl⟩ | ⟨rfl, rfl⟩ <;> rcases cases2 n' _ h' with ⟨rfl, e⟩ | ⟨rfl, e⟩
    · rfl
    · exact absurd e (Nat.succ_ne_self _)
    · exact absurd e.symm (Nat.succ_ne_self _)
    · rfl
  · rcases cases2 n c h with ⟨_, rfl⟩ | ⟨_, rfl⟩
    · exact hnew _ (Nat.le_trans (Nat.le_succ _) (Nat.le_succ _))
    · exact hnew _ (Nat.le_succ _)
  · rcases cases2 n c h with ⟨_, rfl⟩ | ⟨_, rfl⟩
    · exact Nat.ne_of_gt (Nat.lt_of_lt_of_le (Nat.lt_succ_self L) (Nat.le_succ _))
    · exact Nat.ne_of_gt (Nat.lt_succ_self L)

theorem pickL_plain {α : Type} (l : List α) (lo hi : Option Int) : pickL l lo hi none = (l.drop (lo.elim 0 (clipAt l.length))).take (hi.elim l.length (clipAt l.length) - lo.elim 0 (clipAt l.length)) := by
  unfold pickL
  rw [sliceBounds_plain]
  simp only [sliceRange_one]
  have := pick_run l.toArray (lo.elim 0 (clipAt l.length)) (hi.elim l.length (clipAt l.length) - lo.elim 0 (clipAt l.length))
  simpa using this
theorem pickL_upto {α : Type} (l : List α) (b : Nat) : pickL l none (some (b : Int)) none = l.take b := by
  rw [pickL_plain]
  simp only [Option.elim, clipAt_nat, List.drop_zero, Nat.sub_zero]
  rw [List.take_eq_take_iff]; omega
theorem pickL_run {α : Type} (l : List α) (a b : Nat) : pickL l (some (a : Int)) (some (b : Int)) none = (l.drop (min a l.length)).take (min b l.length - min a l.length) := by
  rw [pickL_plain]
  simp only [Option.elim, clipAt_nat]

def st1 (k : Nat) : Stmt := dLaw1.body.getD k (.Pass ⟨0, 0, 0, 0⟩)
theorem bit_item (n : Int) : Txt.charAt "ab" (n.fmod 2) = some (letter (bit n)) := by
  have h : n.fmod 2 = 0 ∨ n.fmod 2 = 1 := by
    have h1 := Int.fmod_nonneg_of_pos n (show (0 : Int) < 2 by decide)
    have h2 := Int.fmod_lt_of_pos n (show (0 : Int) < 2 by decide)
    omega
  unfold bit
  rcases h with h | h <;> rw [h] <;> decide +kernel
theorem fits_small {k : Int} (h0 : -1000000 ≤ k) (h1 : k ≤ 1000000) : fitsSsize k = true := by
  unfold fitsSsize
  simp only [Bool.not_eq_true', Bool.or_eq_false_iff, decide_eq_false_iff_not]
  omega
theorem fmod2 (n : Int) : 0 ≤ n.fmod 2 ∧ n.fmod 2 < 2 := ⟨Int.fmod_nonneg_of_pos n (by decide), Int.fmod_lt_of_pos n (by decide)⟩

set_option maxRecDepth 20000 in
set_option maxHeartbeats 1000000 in
theorem s1 {ns : List Int} {md : Addr → Prop} {X : Heap → Prop} {hX : OnMd md X} {ρ : Locs} (C : Cx A (E1 L f cd) h₀ defs names) (hns : ns.length ≤ 63) (hρ : ρ.lookup ("script" : Str) = some (VList (ns.map VInt))) :
    ∃ e lp px sp, st1 0 = .Assign [.Name "rings" px] (.List [e] lp) sp ∧ Ev prog w A (E1 L f cd) (frHP (E1 L f cd) h₀ ρ md X hX) e (VStr (stB (bits1 ns))) := by
  refine ⟨_, _, _, _, rfl, ?_⟩
  rw [← join_l1]
  refine ev_join (xs := (bits1 ns).map l1) (sep := "") ?_ ?_ ?_
  · exact ev_str
  · rw [show ((bits1 ns).map l1).map VStr = (nums1 ns).map fun n => VStr (l1 (bit n)) by simp [bits1]]
    refine ev_compD (cl := []) (ρc := []) (nums1 ns) VInt (fun n => VStr (l1 (bit n))) ?_ ?_ ?_ ?_ ?_
    · refine caps_nil ?_ ?_ ?_ ?_
      · kernel_rfl!
      · decide +kernel
      · rfl
      · decide +kernel
    · refine it_list C.handled ?_
      unfold nums1
      rw [List.map_append]
      refine ev_BinOp (V₁ := VList ([1, 1, 0, 1, 0, 0, 1].map VInt)) (V₂ := VList ((ns.take 8).map VInt)) ?_ ?_ ?_
      · refine ev_list ?_
        refine ae_cons ev_int ?_
        refine ae_cons ev_int ?_
        refine ae_cons ev_int ?_
        refine ae_cons ev_int ?_
        refine ae_cons ev_int ?_
        refine ae_cons ev_int ?_
        refine ae_cons ev_int ?_
        exact ae_nil
      · rw [← pickL_upto ns 8, ← pickL_map]
        refine ev_slice (V₁ := VList (ns.map VInt)) (kl := none) (ku := some 8) (ks := none) ?_ ep_none (ep_some ev_int) ep_none ?_
        · exact ev_name C.kind hρ
        · intro a vl vu vs sl s av ho hg ha hvl hvu hvs hsl
          exact op_sliceL ho ha hvl hvu hvs hsl (by decide) (by rw [sizeLine_eq]; simp; omega)
      · intro a b s av ho hg ha hb
        refine op_addL ?_ ho ha hb
        rw [sizeLine_eq]; simp; omega
    · kernel_rfl!
    · intro n C' hn
      refine ev_sub (V₁ := VStr "ab") (V₂ := VInt (n.fmod 2)) ?_ ?_ ?_
      · exact ev_str
      · refine ev_BinOp (V₁ := VInt n) (V₂ := VInt 2) ?_ ?_ ?_
        · exact ev_name rfl (by walk_at "lk")
        · exact ev_int
        · intro a b s av ho hg ha hb
          exact op_modI (by decide) ha hb
      · intro a b s av ho hg ha hb
        exact op_itemS ha hb (fits_small (by have := fmod2 n; omega) (by have := fmod2 n; omega)) (bit_item n) (fun _ _ => rfl)
    · rw [sizeLine_eq]; unfold nums1; simp; omega
  · exact joinOk_l1 (by rw [bits1_len]; omega)
end
end Mine

end
section
namespace Mine
local macro_rules | `(tactic| walk_at "lk") => `(tactic| (repeat (first | with_reducible exact lk_head | refine lk_tail (by kernel_rfl!) ?_)))

def frB (ns : List Int) : Bool := !bit ns.sum
theorem stB_len (l : List Bool) : (stB l).length = l.length := by simp [stB, Str.length]

section
variable {prog : Program} {w : World} {A : Around} {L f : Addr} {cd : Value} {h₀ : Heap} {defs : List DefItem} {names : List Str} {R : Addr} {ρ : Locs} {xs : List Str}

set_option maxRecDepth 20000 in
set_option maxHeartbeats 1000000 in
/-- rings[0] -/
theorem e_ring0 {np pos p1 : Pos} {k : Nat} {x : Str} (C : Cx A (E1 L f cd) h₀ defs names) (hr : ρ.lookup ("rings" : Str) = some (VRef R)) :
    Ev prog w A (E1 L f cd) (frHP (E1 L f cd) h₀ ρ (fun b => b = R) (XS R (x :: xs)) (xs_on R _)) (.Subscript (.Name "rings" np) (.Constant (.int 0) k p1) pos) (VStr x) := by
  refine ev_sub (V₁ := VRef R) (V₂ := VInt 0) ?_ ?_ ?_
  · exact ev_name C.kind hr (by kernel_rfl!)
  · exact ev_int
  · intro a b s av ho hg ha hb
    exact op_itemR ha hg.2.1 hb (by decide) (by decide) rfl (fun _ _ => rfl)

set_option maxRecDepth 20000 in
set_option maxHeartbeats 1000000 in
theorem s2 {l : List Bool} (C : Cx A (E1 L f cd) h₀ defs names) (fx : Fx (E1 L f cd) h₀ (fun b => b = R)) (n1 : ("len" : Str) ∉ names) (hr : ρ.lookup ("rings" : Str) = some (VRef R)) (hl : l.length ≤ 1000) :
    HT prog w A (E1 L f cd) h₀ (fun b => b = R) ρ (XS R (stB l :: xs)) (exec (st1 1) (E1 L f cd)) (("size", VInt l.length) :: ρ) (XS R (stB l :: xs)) := by
  refine ht_assign fx (xs_on R _) ?_ ?_
  · rw [show (l.length : Int) = ((stB l).length : Int) by rw [stB_len]]
    refine ev_callB (Vs := [VStr (stB l)]) (id := "len") ?_ ?_ ?_
    · exact ev_builtin C (by decide +kernel) n1 (by kernel_rfl!) (by decide +kernel) (by decide +kernel) (by kernel_rfl!)
    · exact ae_cons (e_ring0 C hr) ae_nil
    · intro vs s av ho hg hvs
      exact op_lenS (by rw [stB_len]; omega) hvs
  · exact .inr ⟨by kernel_rfl!, _, rfl⟩

set_option maxRecDepth 20000 in
set_option maxHeartbeats 1000000 in
theorem s3 {ns : List Int} (C : Cx A (E1 L f cd) h₀ defs names) (fx : Fx (E1 L f cd) h₀ (fun b => b = R)) (n1 : ("sum" : Str) ∉ names) (hr : ρ.lookup ("script" : Str) = some (VList (ns.map VInt))) :
    HT prog w A (E1 L f cd) h₀ (fun b => b = R) ρ (XS R xs) (exec (st1 2) (E1 L f cd)) (("front", VStr (stB [frB ns, !frB ns])) :: ρ) (XS R xs) := by
  refine ht_assign fx (xs_on R _) ?_ (.inl (by kernel_rfl!))
  refine ev_sub (V₁ := VList [VStr "ba", VStr "ab"]) (V₂ := VInt (ns.sum.fmod 2)) ?_ ?_ ?_
  · refine ev_list ?_
    refine ae_cons ev_str ?_
    exact ae_cons ev_str ae_nil
  · refine ev_BinOp (V₁ := VInt ns.sum) (V₂ := VInt 2) ?_ ev_int ?_
    · refine ev_callB (Vs := [VList (ns.map VInt)]) (id := "sum") ?_ ?_ ?_
      · exact ev_builtin C (by decide +kernel) n1 (by kernel_rfl!) (by decide +kernel) (by decide +kernel) (by kernel_rfl!)
      · exact ae_cons (ev_name C.kind hr (by kernel_rfl!)) ae_nil
      · intro vs s av ho hg hvs
        exact op_sum C.handled hvs
    · intro a b s av ho hg ha hb
      exact op_modI (by decide) ha hb
  · intro a b s av ho hg ha hb
    have h := fmod2 ns.sum
    refine op_itemL ha hb h.1 (by omega) ?_ (fun _ _ => rfl)
    have hc : ns.sum.fmod 2 = 0 ∨ ns.sum.fmod 2 = 1 := by omega
    unfold frB bit
    rcases hc with hc | hc <;> rw [hc]
    · exact congrArg (fun x => some (VStr x)) (by decide +kernel)
    · exact congrArg (fun x => some (VStr x)) (by decide +kernel)

set_option maxRecDepth 20000 in
set_option maxHeartbeats 1000000 in
theorem s4 {l : List Bool} (C : Cx A (E1 L f cd) h₀ defs names) (fx : Fx (E1 L f cd) h₀ (fun b => b = R)) (hr : ρ.lookup ("rings" : Str) = some (VRef R)) (hl : l.length ≤ 1000) :
    HT prog w A (E1 L f cd) h₀ (fun b => b = R) ρ (XS R (stB l :: xs)) (exec (st1 3) (E1 L f cd)) (("letters", VList ((l.map l1).map VStr)) :: ρ) (XS R (stB l :: xs)) := by
  rw [← letters_stB]
  refine ht_assign_compD (cl := []) (ρc := []) (hX := xs_on R _) (letters (stB l)) VStr VStr fx ?_ ?_ ?_ ?_ ?_ ?_
  · refine caps_nil ?_ ?_ ?_ ?_
    · kernel_rfl!
    · decide +kernel
    · rfl
    · decide +kernel
  · exact it_str C.handled (e_ring0 C hr)
  · kernel_rfl!
  · intro d C' hd
    exact ev_name rfl (by walk_at "lk")
  · exact .inl (by kernel_rfl!)
  · rw [letters_stB, sizeLine_eq, List.length_map]; omega

/-- the low and the high middle -/
def lowB (l : List Bool) : Bool := decide (l.length - l.count true ≤ (l.length - 1) / 2)
def highB (l : List Bool) : Bool := decide (l.length - l.count true ≤ l.length / 2)

set_option maxRecDepth 20000 in
set_option maxHeartbeats 1000000 in
theorem s5 {l : List Bool} (C : Cx A (E1 L f cd) h₀ defs names) (hroom : A.depth < recursionLimit) (fx : Fx (E1 L f cd) h₀ (fun b => b = R)) (n1 : ("sorted" : Str) ∉ names) (n2 : ("len" : Str) ∉ names) (d1 : dLow ∈ defs) (d2 : dHigh ∈ defs)
    (hr : ρ.lookup ("letters" : Str) = some (VList ((l.map l1).map VStr))) (hl : l.length < 64) (h0 : 0 < l.length) :
    HT prog w A (E1 L f cd) h₀ (fun b => b = R) ρ (XS R xs) (exec (st1 4) (E1 L f cd)) (("low", VStr (l1 (lowB l))) :: ("high", VStr (l1 (highB l))) :: ρ) (XS R xs) := by
  refine ht_assign2 (hX := xs_on R _) fx C.handled ?_ (by kernel_rfl!) (by kernel_rfl!)
  refine ev_tuple ?_
  refine ae_cons ?_ (ae_cons ?_ ae_nil)
  · refine ev_callD (d := dLow) (Vs := [VList ((l.map l1).map VStr)]) C d1 rfl (by kernel_rfl!) ?_ ?_
    · exact ae_cons (ev_name C.kind hr (by kernel_rfl!)) ae_nil
    · exact low_ok hroom C.handled n1 n2 (by simpa using hl) (by simpa using h0) (letters_sorted l) (by simp [ab_len]) (by rw [List.length_map]; exact ab_get (by omega))
  · refine ev_callD (d := dHigh) (Vs := [VList ((l.map l1).map VStr)]) C d2 rfl (by kernel_rfl!) ?_ ?_
    · exact ae_cons (ev_name C.kind hr (by kernel_rfl!)) ae_nil
    · exact high_ok hroom C.handled n1 n2 (by simpa using hl) (by simpa using h0) (letters_sorted l) (by simp [ab_len]) (by rw [List.length_map]; exact ab_get (by omega))
end
end Mine

end
section
namespace Mine
local macro_rules | `(tactic| walk_at "lk") => `(tactic| (repeat (first | with_reducible exact lk_head | refine lk_tail (by kernel_rfl!) ?_)))
local macro_rules | `(tactic| walk_at "sub") => `(tactic| ((repeat (refine List.forall_mem_cons.mpr ⟨by (dsimp only; walk_at "lk"), ?_⟩)); exact List.forall_mem_nil _))

theorem partsFrom_len (x : Str) (w : Nat) : ∀ (cuts : List Nat) (a : Nat), (StrLaws.partsFrom x w a cuts).length = cuts.length + 1
  | [], _ => rfl
  | c :: r, a => by simp [StrLaws.partsFrom, partsFrom_len x w r]
theorem repOk_small {x y z : Str} (hx : x.length ≤ 1000) (hy : 1 ≤ y.length) (hz : z.length ≤ 100) : RepOk x y z := by
  refine ⟨by simpa using Nat.ne_of_gt hy, by rw [sizeLine_eq]; omega, ?_, ?_⟩
  · rw [StrLaws.partsBetween_eq, partsFrom_len, sizeLine_eq]
    have := StrLaws.occ_length_le x y 0 x.length (x.length + 1)
    omega
  · unfold JoinOk
    rw [StrLaws.joinTotal]
    have hw := split_weight x y hy
    unfold Builtin.Str.tooLong
    rw [sizeLine_eq]
    have h1 : (Txt.split x y).length * z.length ≤ 1001 * 100 := Nat.mul_le_mul (by omega) hz
    simp only [Bool.not_eq_true', decide_eq_false_iff_not]
    omega
theorem replW_len_le {y z : List Nat} (hyz : z.length ≤ y.length) (hy : 1 ≤ y.length) : ∀ (n : Nat) (l : List Nat), l.length ≤ n → (replW y z l).length ≤ l.length := by
  intro n
  induction n with
  | zero => intro l hl; have : l = [] := List.eq_nil_of_length_eq_zero (by omega)
            subst this; rw [replW_nil]; exact Nat.le_refl _
  | succ n ih =>
    intro l hl
    cases l with
    | nil => rw [replW_nil]; exact Nat.le_refl _
    | cons c t =>
      rw [replW_cons]
      split
      · rename_i hm
        have hlen := congrArg List.length (beq_iff_eq.mp hm)
        rw [List.length_take, List.length_cons] at hlen
        have := ih (t.drop (y.length - 1)) (by rw [List.length_drop]; simp at hl; omega)
        rw [List.length_append, List.length_cons]
        rw [List.length_drop] at this
        omega
      · have := ih t (by simp at hl; omega)
        rw [List.length_cons, List.length_cons]; omega
theorem swapB_len (p : Bool) : ∀ (n : Nat) (l : List Bool), l.length ≤ n → (swapB p l).length = l.length := by
  intro n
  induction n with
  | zero => intro l hl; have : l = [] := List.eq_nil_of_length_eq_zero (by omega)
            subst this; rfl
  | succ n ih =>
    intro l hl
    match l with
    | [] => rfl
    | [a] => rfl
    | a :: b :: t =>
      rw [swapB]
      split
      · simp [ih t (by simp at hl; omega)]
      · rw [List.length_cons, ih (b :: t) (by simp at hl ⊢; omega), List.length_cons, List.length_cons, List.length_cons]
theorem mul3_toList {r : List Bool} (h : 0 < r.length) : (Txt.mul (stB r) 3).cps.toList = (r ++ (r ++ r)).map letter := by
  unfold Txt.mul
  rw [if_neg (by decide), if_neg (by rw [stB_len]; simp only [Bool.or_eq_true, beq_iff_eq, not_or]; omega)]
  simp [stB, List.replicate]
theorem dash_toList : (Str.ofString "-").cps.toList = [45] := by decide +kernel
theorem stB_toList (l : List Bool) : (stB l).cps.toList = l.map letter := by simp [stB]

def mvArgs (p : Bool) : List Str := [stB [p, !p], "-", "-", stB [!p, p]]
theorem rep_first {p : Bool} {r : List Bool} (h : 0 < r.length) : (rep1 (Txt.mul (stB r) 3) (stB [p, !p]) "-").cps.toList = replW [letter p, letter (!p)] [45] ((r ++ (r ++ r)).map letter) := by
  unfold rep1
  rw [rep1_toList _ _ _ (by rw [stB_len]; simp) (by cases p <;> decide +kernel), mul3_toList h, stB_toList, dash_toList]
  rfl
theorem rep_all {p : Bool} {r : List Bool} (h : 0 < r.length) : (repAll (Txt.mul (stB r) 3) (mvArgs p)).cps.toList = (swapB p (r ++ (r ++ r))).map letter := by
  show (rep1 (rep1 (Txt.mul (stB r) 3) (stB [p, !p]) "-") "-" (stB [!p, p])).cps.toList = _
  rw [← repl_front p _ _ (Nat.le_refl _), ← rep_first h]
  conv => lhs; unfold rep1
  rw [rep1_toList _ _ _ (by decide +kernel) (by decide +kernel), stB_toList, dash_toList]
  rfl
theorem rep_slice {p : Bool} {r : List Bool} (h : 0 < r.length) : Txt.slice (repAll (Txt.mul (stB r) 3) (mvArgs p)) (some (r.length : Int)) (some (2 * (r.length : Int))) = stB (mvI p r) := by
  have hl : (repAll (Txt.mul (stB r) 3) (mvArgs p)).cps.toList.length = 3 * r.length := by
    rw [rep_all h, List.length_map, swapB_len p _ _ (Nat.le_refl _)]; simp; omega
  have hc := slice_closes (x := repAll (Txt.mul (stB r) 3) (mvArgs p)) (i := (r.length : Int)) (j := 2 * (r.length : Int)) ⟨by omega, by omega, by rw [hl]; omega⟩
  rw [beq_iff_eq] at hc
  rw [hc, rep_all h]
  unfold stB
  rw [← mid_third, show ((r.length : Int)).toNat = r.length by omega, show (2 * (r.length : Int) - (r.length : Int)).toNat = r.length by omega, List.map_take, List.map_drop]
theorem rep_sizes {p : Bool} {r : List Bool} (h : 0 < r.length) (h' : r.length ≤ 100) : ∀ i x' y z rr, i < 2 → repTo i (Txt.mul (stB r) 3) (mvArgs p) = (x', y :: z :: rr) → RepOk x' y z := by
  have hm : (Txt.mul (stB r) 3).length ≤ 1000 := by
    have := congrArg List.length (mul3_toList h)
    simp only [Array.length_toList, List.length_map, List.length_append] at this
    unfold Str.length; omega
  intro i x' y z rr hi e
  match i, hi with
  | 0, _ =>
    cases e
    exact repOk_small hm (by rw [stB_len]; simp) (by decide +kernel)
  | 1, _ =>
    cases e
    refine repOk_small ?_ (by decide +kernel) (by rw [stB_len]; simp)
    have h1 := congrArg List.length (rep_first (p := p) h)
    have h2 := replW_len_le (y := [letter p, letter (!p)]) (z := [45]) (by simp) (by simp) _ ((r ++ (r ++ r)).map letter) (Nat.le_refl _)
    simp only [List.length_map, List.length_append, Array.length_toList] at h1 h2
    show (rep1 (Txt.mul (stB r) 3) (stB [p, !p]) "-").cps.size ≤ 1000
    omega
theorem mulOk_small {x : Str} {n : Int} (h0 : 0 ≤ n) (hn : n ≤ 100) (hx : x.length ≤ 1000) : MulOk x n := by
  have hmul : x.length * n.toNat ≤ 1000 * 100 := Nat.mul_le_mul hx (by omega)
  refine ⟨?_, fun h1 _ => ?_, fun h1 _ => ?_⟩
  · rw [Bool.or_eq_false_iff, decide_eq_false_iff_not, decide_eq_false_iff_not]; omega
  · have : (1000 : Int) ≤ (2 ^ 63 - 1) / n := by
      rw [Int.le_ediv_iff_mul_le (by omega)]
      omega
    omega
  · unfold Builtin.Str.tooLong
    rw [sizeLine_eq]; simp; omega

/-- the rings so far -/
def ringsS (p : Bool) (h : Nat) (l : List Bool) (j : Nat) : List Str := (List.range (j + 1)).map fun i => stB (ringAt p h l i)
theorem ringsS_succ (p : Bool) (h : Nat) (l : List Bool) (j : Nat) : ringsS p h l (j + 1) = ringsS p h l j ++ [stB (ringAt p h l (j + 1))] := by
  unfold ringsS; rw [List.range_succ, List.map_append]; rfl
theorem ringsS_len (p : Bool) (h : Nat) (l : List Bool) (j : Nat) : (ringsS p h l j).length = j + 1 := by simp [ringsS]
theorem ringsS_get (p : Bool) (h : Nat) (l : List Bool) {i j : Nat} (hi : i ≤ j) : (ringsS p h l j)[i]? = some (stB (ringAt p h l i)) := by
  unfold ringsS; rw [List.getElem?_map, List.getElem?_range (by omega)]; rfl
theorem ringsS_zero (p : Bool) (h : Nat) (l : List Bool) : ringsS p h l 0 = [stB l] := by simp [ringsS, ringAt_zero]

theorem ev_neg {prog : Program} {w : World} {A : Around} {env : Env} {G : HP} {e : Expr} {a : Int} {pos : Pos} (h : Ev prog w A env G e (VInt a)) : Ev prog w A env G (.UnaryOp .USub e pos) (VInt (-a)) :=
  fun s av ho hg E Q hq => UnaryOp_ (h s av ho hg E _ fun v s₁ hv k₁ => by
    obtain ⟨t, rfl⟩ := hv
    exact P.neg_int (hq _ _ ⟨_, rfl⟩ (k₁.trans (Kps.tok _))))
theorem charAt_stB {l : List Bool} {i : Nat} {b : Bool} (h : l[i]? = some b) : Txt.charAt (stB l) (i : Int) = some (letter b) := charAt_nat (by rw [stB_toList, List.getElem?_map, h]; rfl)
theorem l1_add (a b : Bool) : l1 a ++ l1 b = stB [a, b] := by cases a <;> cases b <;> decide +kernel

section
variable {prog : Program} {w : World} {A : Around} {L f : Addr} {cd : Value} {h₀ : Heap} {defs : List DefItem} {names : List Str} {R : Addr} {ρ : Locs}

set_option maxRecDepth 20000 in
set_option maxHeartbeats 1000000 in
/-- rings[-1] -/
theorem e_last {np pos p1 p2 : Pos} {k : Nat} {p : Bool} {h j : Nat} {l : List Bool} (C : Cx A (E1 L f cd) h₀ defs names) (hr : ρ.lookup ("rings" : Str) = some (VRef R)) (hj : j ≤ 1000) :
    Ev prog w A (E1 L f cd) (frHP (E1 L f cd) h₀ ρ (fun b => b = R) (XS R (ringsS p h l j)) (xs_on R _)) (.Subscript (.Name "rings" np) (.UnaryOp .USub (.Constant (.int 1) k p1) p2) pos) (VStr (stB (ringAt p h l j))) := by
  refine ev_sub (V₁ := VRef R) (V₂ := VInt (-1)) ?_ ?_ ?_
  · exact ev_name C.kind hr (by kernel_rfl!)
  · exact ev_neg ev_int
  · intro a b s av ho hg ha hb
    exact op_itemRneg ha hg.2.1 hb (by decide) (by rw [ringsS_len]; omega) (by decide) (by rw [ringsS_len, show (-1 + ((j + 1 : Nat) : Int)).toNat = j by omega]; exact ringsS_get p h l (Nat.le_refl _)) (fun _ _ => rfl)

set_option maxRecDepth 20000 in
set_option maxHeartbeats 1000000 in
theorem e_half {np pos p1 : Pos} {k : Nat} {n : Nat} {md : Addr → Prop} {X : Heap → Prop} {hX : OnMd md X} (C : Cx A (E1 L f cd) h₀ defs names) (hr : ρ.lookup ("size" : Str) = some (VInt n)) (hn : n ≤ 1000) :
    Ev prog w A (E1 L f cd) (frHP (E1 L f cd) h₀ ρ md X hX) (.BinOp (.Name "size" np) .FloorDiv (.Constant (.int 2) k p1) pos) (VInt ((n / 2 : Nat) : Int)) := by
  rw [show ((n / 2 : Nat) : Int) = ((n : Nat) : Int).fdiv 2 by rw [Int.fdiv_eq_ediv_of_nonneg _ (by decide)]; omega]
  refine ev_BinOp (V₁ := VInt n) (V₂ := VInt 2) ?_ ev_int ?_
  · exact ev_name C.kind hr (by kernel_rfl!)
  · intro a b s av ho hg ha hb
    exact op_divI (by decide) (PyProof.noPylong_small (by omega)) ha hb

def elt6 : Expr := match st1 5 with | .For _ _ [.Expr (.Call _ [e] _ _) _] _ _ => e | _ => .Name "" ⟨0, 0, 0, 0⟩
/-- the frame behind the first five statements -/
abbrev r6 (l : List Bool) (p : Bool) (R : Addr) : Locs := [("low", VStr (l1 (lowB l))), ("high", VStr (l1 (highB l))), ("front", VStr (stB [p, !p])), ("size", VInt l.length), ("rings", VRef R)]

set_option maxRecDepth 20000 in
set_option maxHeartbeats 2000000 in
theorem s6_elt {l r : List Bool} {p : Bool} {turn : VP} {xs : List Str} (C : Cx A (E1 L f cd) h₀ defs names) (hroom : A.depth < recursionLimit) (d1 : dRep ∈ defs) (hlen : r.length = l.length) (h0 : 0 < l.length) (hl : l.length ≤ 100)
    (hlast : ∀ (np pos p1 p2 : Pos) (k : Nat), Ev prog w A (E1 L f cd) (frHP (E1 L f cd) h₀ (("turn", turn) :: r6 l p R) (fun b => b = R) (XS R xs) (xs_on R _)) (.Subscript (.Name "rings" np) (.UnaryOp .USub (.Constant (.int 1) k p1) p2) pos) (VStr (stB r))) :
    Ev prog w A (E1 L f cd) (frHP (E1 L f cd) h₀ (("turn", turn) :: r6 l p R) (fun b => b = R) (XS R xs) (xs_on R _)) elt6 (VStr (stB (mvI p r))) := by
  rw [← rep_slice (by rw [hlen]; exact h0)]
  refine ev_slice (kl := some (r.length : Int)) (ku := some (2 * (r.length : Int))) (ks := none) (V₁ := VStr (repAll (Txt.mul (stB r) 3) (mvArgs p))) ?_ (ep_some ?_) (ep_some ?_) ep_none ?_
  · refine ev_callD (d := dRep) (Vs := VStr (Txt.mul (stB r) 3) :: (mvArgs p).map VStr) C d1 rfl (by kernel_rfl!) ?_ ?_
    · refine ae_cons ?_ (ae_cons ?_ (ae_cons ev_str (ae_cons ev_str (ae_cons ?_ ae_nil))))
      · refine ev_BinOp (V₁ := VInt 3) (V₂ := VStr (stB r)) ev_int ?_ ?_
        · exact hlast _ _ _ _ _
        · intro a b s av ho hg ha hb
          exact op_mulIS (mulOk_small (by decide) (by decide) (by rw [stB_len, hlen]; omega)) ha hb
      · exact ev_name C.kind (by walk_at "lk") (by kernel_rfl!)
      · rw [← l1_add]
        refine ev_BinOp (V₁ := VStr (l1 (!p))) (V₂ := VStr (l1 p)) ?_ ?_ ?_
        · refine ev_sub (V₁ := VStr (stB [p, !p])) (V₂ := VInt 1) (ev_name C.kind (by walk_at "lk") (by kernel_rfl!)) ev_int ?_
          intro a b s av ho hg ha hb
          exact op_itemS ha hb (by decide) (charAt_stB (i := 1) rfl) (fun _ _ => rfl)
        · refine ev_sub (V₁ := VStr (stB [p, !p])) (V₂ := VInt 0) (ev_name C.kind (by walk_at "lk") (by kernel_rfl!)) ev_int ?_
          intro a b s av ho hg ha hb
          exact op_itemS ha hb (by decide) (charAt_stB (i := 0) rfl) (fun _ _ => rfl)
        · intro a b s av ho hg ha hb
          exact op_addS (by rw [sizeLine_eq]; show 1 + 1 ≤ 16777216; decide) ha hb
    · exact rep_ok (n := 2) hroom C.handled rfl (by simp [mvArgs]) (rep_sizes (by rw [hlen]; exact h0) (by rw [hlen]; exact hl))
  · rw [hlen]; exact ev_name C.kind (by walk_at "lk") (by kernel_rfl!)
  · rw [hlen]
    refine ev_BinOp (V₁ := VInt 2) (V₂ := VInt l.length) ev_int (ev_name C.kind (by walk_at "lk") (by kernel_rfl!)) ?_
    intro a b s av ho hg ha hb
    exact op_mulI (IntMulOk.of_left (by decide +kernel)) ha hb
  · intro a vl vu vs sl s av ho hg ha hvl hvu hvs hsl
    refine op_sliceS ha hvl hvu hvs hsl ?_
    have := congrArg List.length (rep_all (p := p) (r := r) (by rw [hlen]; exact h0))
    rw [List.length_map, swapB_len p _ _ (Nat.le_refl _)] at this
    simp only [Array.length_toList, List.length_append, hlen] at this
    rw [sizeLine_eq]; unfold Str.length; omega

set_option maxRecDepth 20000 in
set_option maxHeartbeats 2000000 in
theorem s6 {l : List Bool} {p : Bool} (C : Cx A (E1 L f cd) h₀ defs names) (hroom : A.depth < recursionLimit) (fx : Fx (E1 L f cd) h₀ (fun b => b = R)) (n1 : ("range" : Str) ∉ names) (d1 : dRep ∈ defs) (h0 : 0 < l.length) (hl : l.length ≤ 100) :
    HT prog w A (E1 L f cd) h₀ (fun b => b = R) (r6 l p R) (XS R [stB l]) (exec (st1 5) (E1 L f cd)) (r6 l p R) (XS R (ringsS p (l.length / 2) l (l.length / 2))) := by
  refine ht_for_range (x := "turn") (hX₀ := xs_on R _) (l.length / 2) (fun _ => r6 l p R) (fun i => XS R (ringsS p (l.length / 2) l i)) fx (fun i => xs_on R _) C.handled ?_ ?_ (by omega) ?_ ?_ (.inl (by kernel_rfl!)) ?_
  · exact ev_builtin C (by decide +kernel) n1 (by kernel_rfl!) (by decide +kernel) (by decide +kernel) (by kernel_rfl!)
  · exact e_half C (by walk_at "lk") (by omega)
  · walk_at "sub"
  · intro h hX; rw [ringsS_zero]; exact hX
  · intro i hi
    have hlen := ringAt_len p (l.length / 2) l i
    have e2 := s6_elt (prog := prog) (w := w) (r := ringAt p (l.length / 2) l i) (p := p) (turn := VInt i) (xs := ringsS p (l.length / 2) l i) (R := R) C hroom d1 hlen h0 hl (fun _ _ _ _ _ => e_last C (by walk_at "lk") (by omega))
    rw [ringsS_succ]
    refine ht_sub (ρ₁ := (("turn" : Str), VInt i) :: r6 l p R) ?_ (by walk_at "sub")
    rw [ringAt_mv _ _ _ _ hi]
    exact ht_cons (ht_appendS fx (by walk_at "lk") (by rw [ringsS_len]; omega) e2) ht_nil
end
end Mine

end
section
namespace Mine
local macro_rules | `(tactic| walk_at "lk") => `(tactic| (repeat (first | with_reducible exact lk_head | refine lk_tail (by kernel_rfl!) ?_)))
local macro_rules | `(tactic| walk_at "sub") => `(tactic| ((repeat (refine List.forall_mem_cons.mpr ⟨by (dsimp only; walk_at "lk"), ?_⟩)); exact List.forall_mem_nil _))

theorem getD_get {r : List Bool} {i : Nat} (h : i < r.length) : r[i]? = some (r.getD i false) := by simp [List.getD, h]
theorem char_at {r : List Bool} {k : Nat} (hk : k < r.length) : Txt.charAt (stB r) (k : Int) = some (letter (r.getD k false)) := charAt_stB (getD_get hk)
theorem char_next {r : List Bool} {k : Nat} (hk : k < r.length) : Txt.charAt (stB r) (((k : Int) + 1).fmod (r.length : Int)) = some (letter (r.getD ((k + 1) % r.length) false)) := by
  rw [Int.fmod_eq_emod_of_nonneg _ (by omega), show (((k : Int) + 1) % (r.length : Int)) = (((k + 1) % r.length : Nat) : Int) by push_cast; rfl]
  exact char_at (Nat.mod_lt _ (by omega))
theorem char_prev {r : List Bool} {k : Nat} (hk : k < r.length) : Txt.charAt (stB r) ((k : Int) - 1) = some (letter (r.getD ((k + r.length - 1) % r.length) false)) := by
  cases k with
  | zero =>
    rw [show 0 + r.length - 1 = r.length - 1 by omega, Nat.mod_eq_of_lt (by omega)]
    unfold Txt.charAt
    have hl : (stB r).length = r.length := stB_len r
    rw [seqIndex_neg (by omega) (by rw [hl]; omega), hl, show (((0 : Nat) : Int) - 1 + (r.length : Int)).toNat = r.length - 1 by omega]
    have := stB_toList r
    show (stB r).cps[r.length - 1]? = _
    rw [← Array.getElem?_toList, this, List.getElem?_map, getD_get (by omega)]
    rfl
  | succ k =>
    rw [show k + 1 + r.length - 1 = k + r.length by omega, Nat.add_mod_right, Nat.mod_eq_of_lt (by omega), show ((k + 1 : Nat) : Int) - 1 = (k : Int) by omega]
    exact char_at (by omega)
theorem med3 (a c b : Bool) : ((ab [a, c, b]).map l1)[(([a, c, b].map l1).length - 1) / 2]? = some (l1 (cV a c b)) := by
  cases a <;> cases c <;> cases b <;> rfl

section
variable {prog : Program} {w : World} {A : Around} {L f : Addr} {cd : Value} {h₀ : Heap} {defs : List DefItem} {names : List Str} {R : Addr} {ρ : Locs}

theorem cells_swap : ∀ (n : Str) (c : Addr), List.lookup n [(("size" : Str), L + 1), (("ring" : Str), L + 1 + 1)] = some c → (E1 L f cd).cells.lookup n = some c := by
  intro n c h
  have hc : (E1 L f cd).cells = [(("ring" : Str), L + 1 + 1), (("size" : Str), L + 1)] := by rfl
  rw [hc]
  simp only [List.lookup_cons, List.lookup_nil] at h ⊢
  by_cases h1 : n = "ring"
  · subst h1
    rw [show ((Str.ofString "ring") == (Str.ofString "size")) = false by decide +kernel] at h
    simpa using h
  · by_cases h2 : n = "size"
    · subst h2
      rw [show ((Str.ofString "size") == (Str.ofString "ring")) = false by decide +kernel]
      simpa using h
    · rw [show (n == Str.ofString "size") = false by simpa using h2, show (n == Str.ofString "ring") = false by simpa using h1] at h
      cases h

/-- the frame of a voting round -/
abbrev r7 (l r : List Bool) (p : Bool) (R : Addr) (i : Nat) : Locs := ("ring", VStr (stB r)) :: ("turn", VInt i) :: r6 l p R

def elt7 : Expr := match st1 6 with | .For _ _ [_, _, .Expr (.Call _ [e] _ _) _] _ _ => e | _ => .Name "" ⟨0, 0, 0, 0⟩

set_option maxRecDepth 20000 in
set_option maxHeartbeats 2000000 in
theorem s7_elt {l r : List Bool} {p : Bool} {i : Nat} {xs : List Str} (C : Cx A (E1 L f cd) h₀ defs names) (hroom : A.depth < recursionLimit) (n0 : ("sorted" : Str) ∉ names) (n1 : ("range" : Str) ∉ names) (n2 : ("len" : Str) ∉ names) (d1 : dLow ∈ defs)
    (hlen : r.length = l.length) (h0 : 0 < l.length) (hl : l.length ≤ 100) :
    Ev prog w A (E1 L f cd) (frHP (E1 L f cd) h₀ (r7 l r p R i) (fun b => b = R) (XS R xs) (xs_on R _)) elt7 (VStr (stB (vtI r))) := by
  rw [← join_l1]
  refine ev_join (xs := (vtI r).map l1) (sep := "") ?_ ?_ ?_
  · exact ev_str
  · rw [show ((vtI r).map l1).map VStr = (List.range r.length).map fun k => VStr (l1 (cV (r.getD ((k + r.length - 1) % r.length) false) (r.getD k false) (r.getD ((k + 1) % r.length) false))) by simp [vtI, Function.comp_def]]
    refine ev_compD (cl := [("size", L + 1), ("ring", L + 1 + 1)]) (ρc := [("ring", VStr (stB r)), ("size", VInt l.length)]) (List.range r.length) (fun (k : Nat) => VInt k) _ ?_ ?_ ?_ ?_ ?_
    · refine ⟨?_, ?_, ?_, ?_, ?_, ?_⟩
      · kernel_rfl!
      · exact cells_swap
      · refine List.forall_mem_cons.mpr ⟨⟨by (dsimp only; walk_at "lk"), by kernel_rfl!, by kernel_rfl!, by kernel_rfl!⟩, ?_⟩
        refine List.forall_mem_cons.mpr ⟨⟨by (dsimp only; walk_at "lk"), by kernel_rfl!, by kernel_rfl!, by kernel_rfl!⟩, ?_⟩
        exact List.forall_mem_nil _
      · decide +kernel
      · rfl
      · decide +kernel
    · rw [hlen]
      refine it_range C.handled ?_ ?_ (by omega)
      · exact ev_builtin C (by decide +kernel) n1 (by kernel_rfl!) (by decide +kernel) (by decide +kernel) (by kernel_rfl!)
      · exact ev_name C.kind (by walk_at "lk") (by kernel_rfl!)
    · kernel_rfl!
    · intro k C' hk
      have hk' : k < r.length := List.mem_range.mp hk
      refine ev_callD (d := dLow) (Vs := [VList (([r.getD ((k + r.length - 1) % r.length) false, r.getD k false, r.getD ((k + 1) % r.length) false].map l1).map VStr)]) (cx_comp C rfl) d1 rfl (by kernel_rfl!) ?_ ?_
      · refine ae_cons ?_ ae_nil
        refine ev_list ?_
        refine ae_cons ?_ (ae_cons ?_ (ae_cons ?_ ae_nil))
        · refine ev_sub (V₁ := VStr (stB r)) (V₂ := VInt ((k : Int) - 1)) (ev_name rfl (by walk_at "lk") (by kernel_rfl!)) ?_ ?_
          · refine ev_BinOp (V₁ := VInt k) (V₂ := VInt 1) (ev_name rfl (by walk_at "lk") (by kernel_rfl!)) ev_int ?_
            intro a b s av ho hg ha hb
            exact op_subI ha hb
          · intro a b s av ho hg ha hb
            exact op_itemS ha hb (fits_small (by omega) (by omega)) (char_prev hk') (fun _ _ => rfl)
        · refine ev_sub (V₁ := VStr (stB r)) (V₂ := VInt (k : Int)) (ev_name rfl (by walk_at "lk") (by kernel_rfl!)) (ev_name rfl (by walk_at "lk") (by kernel_rfl!)) ?_
          intro a b s av ho hg ha hb
          exact op_itemS ha hb (fits_small (by omega) (by omega)) (char_at hk') (fun _ _ => rfl)
        · refine ev_sub (V₁ := VStr (stB r)) (V₂ := VInt (((k : Int) + 1).fmod (r.length : Int))) (ev_name rfl (by walk_at "lk") (by kernel_rfl!)) ?_ ?_
          · rw [hlen]
            refine ev_BinOp (V₁ := VInt ((k : Int) + 1)) (V₂ := VInt l.length) ?_ (ev_name rfl (by walk_at "lk") (by kernel_rfl!)) ?_
            · refine ev_BinOp (V₁ := VInt k) (V₂ := VInt 1) (ev_name rfl (by walk_at "lk") (by kernel_rfl!)) ev_int ?_
              intro a b s av ho hg ha hb
              exact op_addI ha hb
            · intro a b s av ho hg ha hb
              exact op_modI (by omega) ha hb
          · intro a b s av ho hg ha hb
            refine op_itemS ha hb (fits_small ?_ ?_) (char_next hk') (fun _ _ => rfl)
            · rw [Int.fmod_eq_emod_of_nonneg _ (by omega)]; have := Int.emod_nonneg ((k : Int) + 1) (b := (r.length : Int)) (by omega); omega
            · rw [Int.fmod_eq_emod_of_nonneg _ (by omega)]; have := Int.emod_lt_of_pos ((k : Int) + 1) (b := (r.length : Int)) (by omega); omega
      · exact low_ok hroom C.handled n0 n2 (by simp) (by simp) (letters_sorted _) (by simp [ab_len]) (med3 _ _ _)
    · rw [List.length_range, sizeLine_eq]; omega
  · exact joinOk_l1 (by rw [vtI_len]; omega)
end
end Mine

end
section
namespace Mine
local macro_rules | `(tactic| walk_at "lk") => `(tactic| (repeat (first | with_reducible exact lk_head | refine lk_tail (by kernel_rfl!) ?_)))
local macro_rules | `(tactic| walk_at "sub") => `(tactic| ((repeat (refine List.forall_mem_cons.mpr ⟨by (dsimp only; walk_at "lk"), ?_⟩)); exact List.forall_mem_nil _))

theorem Ev.cast {prog : Program} {w : World} {A : Around} {env : Env} {G : HP} {e : Expr} {V W : VP} (h : Ev prog w A env G e V) (hv : V = W) : Ev prog w A env G e W := hv ▸ h
theorem vbool_eq {b c : Bool} (h : b = c) : ∀ (av : Addr → Prop) (hp : Heap) (y : Value), (VBool b).P av hp y → (VBool c).P av hp y := fun _ _ _ hy => h ▸ hy
/-- F is among the rings that are asked for -/
theorem final_in (p : Bool) (t : List Bool) (ht : t.length ≤ 8) (l : List Bool) (hl : l = base ++ t) :
    (lowB l = highB l → stB (ringAt p (l.length / 2) l (2 * (l.length / 2))) = Txt.mul (l1 (lowB l)) l.length) ∧
    (lowB l ≠ highB l → stB (ringAt p (l.length / 2) l (2 * (l.length / 2))) = Txt.mul "ab" ((l.length / 2 : Nat) : Int) ∨ stB (ringAt p (l.length / 2) l (2 * (l.length / 2))) = Txt.mul "ba" ((l.length / 2 : Nat) : Int)) := by
  obtain ⟨f1, f2, f3⟩ := final_ring p t ht l hl
  have hlen : l.length = 7 + t.length := by rw [hl, List.length_append]; rfl
  have hcl := List.count_le_length (a := true) (l := l)
  have rep : ∀ b : Bool, stB (List.replicate l.length b) = Txt.mul (l1 b) l.length := by
    intro b
    apply str_ext
    rw [stB_toList]
    have := mul_one_list (letter b) (l.length : Int)
    rw [show (l1 b) = ⟨#[letter b]⟩ from rfl, this]
    simp
  unfold lowB highB
  refine ⟨fun h => ?_, fun h => ?_⟩
  · rcases Nat.lt_trichotomy (2 * l.count true) l.length with hc | hc | hc
    · rw [f1 hc, rep, show (decide (l.length - l.count true ≤ (l.length - 1) / 2)) = false by simp; omega]
    · exfalso
      rw [decide_eq_decide] at h
      omega
    · rw [f2 hc, rep, show (decide (l.length - l.count true ≤ (l.length - 1) / 2)) = true by simp; omega]
  · have hc : 2 * l.count true = l.length := by
      rcases Nat.lt_trichotomy (2 * l.count true) l.length with hc | hc | hc
      · exact absurd (by rw [decide_eq_decide]; omega) h
      · exact hc
      · exact absurd (by rw [decide_eq_decide]; omega) h
    have hcase : l.length = 8 ∨ l.length = 10 ∨ l.length = 12 ∨ l.length = 14 := by omega
    rcases f3 hc with e | e
    · right; rw [e]
      rcases hcase with h | h | h | h <;> rw [h] <;> decide +kernel
    · left; rw [e]
      rcases hcase with h | h | h | h <;> rw [h] <;> decide +kernel

section
variable {prog : Program} {w : World} {A : Around} {L f : Addr} {cd : Value} {h₀ : Heap} {defs : List DefItem} {names : List Str} {R : Addr} {ρ : Locs}

set_option maxRecDepth 20000 in
set_option maxHeartbeats 2000000 in
theorem s7 {l : List Bool} {p : Bool} (C : Cx A (E1 L f cd) h₀ defs names) (hroom : A.depth < recursionLimit) (fx : Fx (E1 L f cd) h₀ (fun b => b = R)) (n0 : ("sorted" : Str) ∉ names) (n1 : ("range" : Str) ∉ names) (n2 : ("len" : Str) ∉ names) (d1 : dLow ∈ defs)
    (h0 : 0 < l.length) (hl : l.length ≤ 100) :
    HT prog w A (E1 L f cd) h₀ (fun b => b = R) (r6 l p R) (XS R (ringsS p (l.length / 2) l (l.length / 2))) (exec (st1 6) (E1 L f cd)) (r6 l p R) (XS R (ringsS p (l.length / 2) l (l.length / 2 + l.length / 2))) := by
  refine ht_for_range (x := "turn") (hX₀ := xs_on R _) (l.length / 2) (fun _ => r6 l p R) (fun i => XS R (ringsS p (l.length / 2) l (l.length / 2 + i))) fx (fun i => xs_on R _) C.handled ?_ ?_ (by omega) ?_ ?_ (.inl (by kernel_rfl!)) ?_
  · exact ev_builtin C (by decide +kernel) n1 (by kernel_rfl!) (by decide +kernel) (by decide +kernel) (by kernel_rfl!)
  · exact e_half C (by walk_at "lk") (by omega)
  · walk_at "sub"
  · intro h hX; exact hX
  · intro i hi
    have hlen := ringAt_len p (l.length / 2) l (l.length / 2 + i)
    have e2 := s7_elt (prog := prog) (w := w) (r := ringAt p (l.length / 2) l (l.length / 2 + i)) (p := p) (i := i) (xs := ringsS p (l.length / 2) l (l.length / 2 + i)) (R := R) C hroom n0 n1 n2 d1 hlen h0 hl
    rw [← Nat.add_assoc, ringsS_succ]
    refine ht_sub (ρ₁ := r7 l (ringAt p (l.length / 2) l (l.length / 2 + i)) p R i) ?_ (by walk_at "sub")
    rw [ringAt_vt _ _ _ _ (Nat.le_add_right _ _)]
    refine ht_cons (ρ₁ := r7 l (ringAt p (l.length / 2) l (l.length / 2 + i)) p R i) (ht_assign fx (xs_on R _) ?_ (.inr ⟨by kernel_rfl!, _, rfl⟩)) ?_
    · exact e_last C (by walk_at "lk") (by omega)
    refine ht_cons (ρ₁ := r7 l (ringAt p (l.length / 2) l (l.length / 2 + i)) p R i) (ht_if (c := false) (xs_on R _) ?_ (fun h => nomatch h) fun _ => ht_nil) ?_
    · refine tst_Compare (V₁ := VInt l.length) (V₂ := VInt l.length) ?_ (ev_name C.kind (by walk_at "lk") (by kernel_rfl!)) ?_
      · refine Ev.cast (V := VInt ((stB (ringAt p (l.length / 2) l (l.length / 2 + i))).length : Nat)) ?_ (by rw [stB_len, hlen])
        refine ev_callB (Vs := [VStr (stB (ringAt p (l.length / 2) l (l.length / 2 + i)))]) (id := "len") ?_ ?_ ?_
        · exact ev_builtin C (by decide +kernel) n2 (by kernel_rfl!) (by decide +kernel) (by decide +kernel) (by kernel_rfl!)
        · exact ae_cons (ev_name C.kind (by walk_at "lk") (by kernel_rfl!)) ae_nil
        · intro vs s av ho hg hvs
          exact op_lenS (by rw [stB_len, hlen]; omega) hvs
      · intro a b s av ho hg ha hb
        exact (op_neI ha hb).mono (vbool_eq (by simp) av)
    · exact ht_cons (ht_appendS fx (by walk_at "lk") (by rw [ringsS_len]; omega) e2) ht_nil

set_option maxRecDepth 20000 in
set_option maxHeartbeats 2000000 in
theorem s8 {l t : List Bool} {p : Bool} (C : Cx A (E1 L f cd) h₀ defs names) (ht : t.length ≤ 8) (hl : l = base ++ t) :
    HT prog w A (E1 L f cd) h₀ (fun b => b = R) (r6 l p R) (XS R (ringsS p (l.length / 2) l (l.length / 2 + l.length / 2))) (exec (st1 7) (E1 L f cd)) (r6 l p R) (XS R (ringsS p (l.length / 2) l (l.length / 2 + l.length / 2))) := by
  have hlen : l.length = 7 + t.length := by rw [hl, List.length_append]; rfl
  obtain ⟨g1, g2⟩ := final_in p t ht l hl
  have e2h : 2 * (l.length / 2) = l.length / 2 + l.length / 2 := by omega
  rw [e2h] at g1 g2
  refine ht_if (c := false) (xs_on R _) ?_ (fun h => nomatch h) fun _ => ht_nil
  by_cases hlh : lowB l = highB l
  · refine tst_Compare (V₁ := VStr (stB (ringAt p (l.length / 2) l (l.length / 2 + l.length / 2)))) (V₂ := VList ([Txt.mul (l1 (lowB l)) l.length].map VStr)) ?_ ?_ ?_
    · exact e_last C (by walk_at "lk") (by omega)
    · refine ev_ifexp (c := true) ?_ ?_ (fun h => nomatch h)
      · refine tst_Compare (V₁ := VStr (l1 (lowB l))) (V₂ := VStr (l1 (highB l))) (ev_name C.kind (by walk_at "lk") (by kernel_rfl!)) (ev_name C.kind (by walk_at "lk") (by kernel_rfl!)) ?_
        intro a b s av ho hg ha hb
        exact (op_eqS ha hb).mono (vbool_eq (by rw [hlh]; simp) av)
      · intro _
        refine ev_list (ae_cons ?_ ae_nil)
        refine ev_BinOp (V₁ := VInt l.length) (V₂ := VStr (l1 (lowB l))) (ev_name C.kind (by walk_at "lk") (by kernel_rfl!)) (ev_name C.kind (by walk_at "lk") (by kernel_rfl!)) ?_
        intro a b s av ho hg ha hb
        exact op_mulIS (mulOk_small (by omega) (by omega) (by show 1 ≤ 1000; decide)) ha hb
    · intro a b s av ho hg ha hb
      exact (op_notinL ha hb).mono (vbool_eq (by simp [g1 hlh]) av)
  · refine tst_Compare (V₁ := VStr (stB (ringAt p (l.length / 2) l (l.length / 2 + l.length / 2)))) (V₂ := VList ([Txt.mul "ab" ((l.length / 2 : Nat) : Int), Txt.mul "ba" ((l.length / 2 : Nat) : Int)].map VStr)) ?_ ?_ ?_
    · exact e_last C (by walk_at "lk") (by omega)
    · refine ev_ifexp (c := false) ?_ (fun h => nomatch h) ?_
      · refine tst_Compare (V₁ := VStr (l1 (lowB l))) (V₂ := VStr (l1 (highB l))) (ev_name C.kind (by walk_at "lk") (by kernel_rfl!)) (ev_name C.kind (by walk_at "lk") (by kernel_rfl!)) ?_
        intro a b s av ho hg ha hb
        refine (op_eqS ha hb).mono (vbool_eq ?_ av)
        cases h1 : lowB l <;> cases h2 : highB l
        · exact absurd (h1.trans h2.symm) hlh
        · decide
        · decide
        · exact absurd (h1.trans h2.symm) hlh
      · intro _
        refine ev_list (ae_cons ?_ (ae_cons ?_ ae_nil))
        · refine ev_BinOp (V₁ := VStr "ab") (V₂ := VInt ((l.length / 2 : Nat) : Int)) ev_str (e_half C (by walk_at "lk") (by omega)) ?_
          intro a b s av ho hg ha hb
          exact op_mulSI (mulOk_small (by omega) (by omega) (by decide +kernel)) ha hb
        · refine ev_BinOp (V₁ := VStr "ba") (V₂ := VInt ((l.length / 2 : Nat) : Int)) ev_str (e_half C (by walk_at "lk") (by omega)) ?_
          intro a b s av ho hg ha hb
          exact op_mulSI (mulOk_small (by omega) (by omega) (by decide +kernel)) ha hb
    · intro a b s av ho hg ha hb
      refine (op_notinL ha hb).mono (vbool_eq ?_ av)
      rcases g2 hlh with e | e <;> rw [e] <;> simp
end
end Mine

end
section
namespace Mine
local macro_rules | `(tactic| walk_at "lk") => `(tactic| (repeat (first | with_reducible exact lk_head | refine lk_tail (by kernel_rfl!) ?_)))
local macro_rules | `(tactic| walk_at "sub") => `(tactic| ((repeat (refine List.forall_mem_cons.mpr ⟨by (dsimp only; walk_at "lk"), ?_⟩)); exact List.forall_mem_nil _))

theorem near_add (a c b : Bool) : l1 a ++ l1 c ++ l1 b = stB [a, c, b] := by cases a <;> cases c <;> cases b <;> decide +kernel
theorem near_count (a c b : Bool) : (decide (1 < Txt.count (stB [a, c, b]) "b")) = cV a c b := by cases a <;> cases c <;> cases b <;> decide +kernel
theorem near_two (p a c b : Bool) : ((Txt.slice (stB [a, c, b]) none (some 2)).cps.toList == (stB [p, !p]).cps.toList) = decide (a = p ∧ c = !p) := by cases p <;> cases a <;> cases c <;> cases b <;> decide +kernel
theorem near_last (p a c b : Bool) : ((Txt.slice (stB [a, c, b]) (some 1) none).cps.toList == (stB [p, !p]).cps.toList) = decide (c = p ∧ b = !p) := by cases p <;> cases a <;> cases c <;> cases b <;> decide +kernel
theorem stB_snoc {m : List Bool} {k : Nat} {b : Bool} (h : m[k]? = some b) : stB (m.take k) ++ l1 b = stB (m.take (k + 1)) := by
  apply str_ext
  rw [Str.cps_append, stB_toList, List.take_add_one, h]
  simp [stB, l1]
theorem mvI_get {p : Bool} {r : List Bool} {k : Nat} (hk : k < r.length) : (mvI p r)[k]? = some (cM p (r.getD ((k + r.length - 1) % r.length) false) (r.getD k false) (r.getD ((k + 1) % r.length) false)) := by
  unfold mvI; rw [List.getElem?_map, List.getElem?_range hk]; rfl
theorem vtI_get {r : List Bool} {k : Nat} (hk : k < r.length) : (vtI r)[k]? = some (cV (r.getD ((k + r.length - 1) % r.length) false) (r.getD k false) (r.getD ((k + 1) % r.length) false)) := by
  unfold vtI; rw [List.getElem?_map, List.getElem?_range hk]; rfl

section
variable {prog : Program} {w : World} {A : Around} {L f : Addr} {cd : Value} {h₀ : Heap} {defs : List DefItem} {names : List Str} {R : Addr} {ρ : Locs}

abbrev r9 (l r : List Bool) (p : Bool) (R : Addr) (i : Nat) (d : List Bool) : Locs := ("due", VStr (stB d)) :: ("ring", VStr (stB r)) :: ("turn", VInt i) :: r6 l p R
def bd9 : List Stmt := match st1 8 with | .For _ _ b _ _ => b | _ => []
def in9 : List Stmt := match bd9 with | [_, _, .For _ _ b _ _, _] => b | _ => []

set_option maxRecDepth 20000 in
set_option maxHeartbeats 2000000 in
theorem s9_near {l r d : List Bool} {p : Bool} {i k : Nat} {xs : List Str} (C : Cx A (E1 L f cd) h₀ defs names) (fx : Fx (E1 L f cd) h₀ (fun b => b = R)) (hlen : r.length = l.length) (hl : l.length ≤ 100) (hk : k < r.length) :
    HT prog w A (E1 L f cd) h₀ (fun b => b = R) (("k", VInt k) :: r9 l r p R i d) (XS R xs) (exec (in9.getD 0 (.Pass ⟨0,0,0,0⟩)) (E1 L f cd))
      (("near", VStr (stB [r.getD ((k + r.length - 1) % r.length) false, r.getD k false, r.getD ((k + 1) % r.length) false])) :: ("k", VInt k) :: r9 l r p R i d) (XS R xs) := by
  refine ht_assign fx (xs_on R _) ?_ (.inl (by kernel_rfl!))
  rw [← near_add]
  refine ev_BinOp (V₁ := VStr (l1 (r.getD ((k + r.length - 1) % r.length) false) ++ l1 (r.getD k false))) (V₂ := VStr (l1 (r.getD ((k + 1) % r.length) false))) ?_ ?_ ?_
  · refine ev_BinOp (V₁ := VStr (l1 (r.getD ((k + r.length - 1) % r.length) false))) (V₂ := VStr (l1 (r.getD k false))) ?_ ?_ ?_
    · refine ev_sub (V₁ := VStr (stB r)) (V₂ := VInt ((k : Int) - 1)) (ev_name C.kind (by walk_at "lk") (by kernel_rfl!)) ?_ ?_
      · refine ev_BinOp (V₁ := VInt k) (V₂ := VInt 1) (ev_name C.kind (by walk_at "lk") (by kernel_rfl!)) ev_int ?_
        intro a b s av ho hg ha hb
        exact op_subI ha hb
      · intro a b s av ho hg ha hb
        exact op_itemS ha hb (fits_small (by omega) (by omega)) (char_prev hk) (fun _ _ => rfl)
    · refine ev_sub (V₁ := VStr (stB r)) (V₂ := VInt (k : Int)) (ev_name C.kind (by walk_at "lk") (by kernel_rfl!)) (ev_name C.kind (by walk_at "lk") (by kernel_rfl!)) ?_
      intro a b s av ho hg ha hb
      exact op_itemS ha hb (fits_small (by omega) (by omega)) (char_at hk) (fun _ _ => rfl)
    · intro a b s av ho hg ha hb
      exact op_addS (by rw [sizeLine_eq]; show 1 + 1 ≤ 16777216; decide) ha hb
  · refine ev_sub (V₁ := VStr (stB r)) (V₂ := VInt (((k : Int) + 1).fmod (r.length : Int))) (ev_name C.kind (by walk_at "lk") (by kernel_rfl!)) ?_ ?_
    · refine Ev.cast (V := VInt (((k : Int) + 1).fmod (l.length : Int))) ?_ (by rw [hlen])
      refine ev_BinOp (V₁ := VInt ((k : Int) + 1)) (V₂ := VInt l.length) ?_ (ev_name C.kind (by walk_at "lk") (by kernel_rfl!)) ?_
      · refine ev_BinOp (V₁ := VInt k) (V₂ := VInt 1) (ev_name C.kind (by walk_at "lk") (by kernel_rfl!)) ev_int ?_
        intro a b s av ho hg ha hb
        exact op_addI ha hb
      · intro a b s av ho hg ha hb
        exact op_modI (by omega) ha hb
    · intro a b s av ho hg ha hb
      refine op_itemS ha hb (fits_small ?_ ?_) (char_next hk) (fun _ _ => rfl)
      · rw [Int.fmod_eq_emod_of_nonneg _ (by omega)]; have := Int.emod_nonneg ((k : Int) + 1) (b := (r.length : Int)) (by omega); omega
      · rw [Int.fmod_eq_emod_of_nonneg _ (by omega)]; have := Int.emod_lt_of_pos ((k : Int) + 1) (b := (r.length : Int)) (by omega); omega
  · intro a b s av ho hg ha hb
    exact op_addS (by rw [sizeLine_eq]; show 2 + 1 ≤ 16777216; decide) ha hb

set_option maxRecDepth 20000 in
set_option maxHeartbeats 4000000 in
/-- the letter that is due -/
theorem s9_due {l r : List Bool} {nx : List Bool} {p a c b : Bool} {i k : Nat} {xs : List Str} (C : Cx A (E1 L f cd) h₀ defs names) (fx : Fx (E1 L f cd) h₀ (fun b => b = R)) (hlen : r.length = l.length) (hl : l.length ≤ 100) (hk : k < r.length) (hi : i ≤ 1000)
    (hc : r.getD k false = c) (hnl : nx.length = l.length)
    (hnx : nx[k]? = some (if l.length / 2 ≤ i then cV a c b else cM p a c b)) :
    HT prog w A (E1 L f cd) h₀ (fun b => b = R) (("near", VStr (stB [a, c, b])) :: ("k", VInt k) :: r9 l r p R i (nx.take k)) (XS R xs) (exec (in9.getD 1 (.Pass ⟨0,0,0,0⟩)) (E1 L f cd))
      (("due", VStr (stB (nx.take (k + 1)))) :: ("near", VStr (stB [a, c, b])) :: ("k", VInt k) :: r9 l r p R i (nx.take k)) (XS R xs) := by
  have hsz : ∀ x : Bool, (stB (nx.take k)).length + (l1 x).length ≤ sizeLine := fun x => by
    rw [stB_len, List.length_take, sizeLine_eq]; show _ + 1 ≤ _; omega
  refine ht_if (c := decide (l.length / 2 ≤ i)) (xs_on R _) ?_ ?_ ?_
  · refine tst_Compare (V₁ := VInt i) (V₂ := VInt ((l.length / 2 : Nat) : Int)) (ev_name C.kind (by walk_at "lk") (by kernel_rfl!)) (e_half C (by walk_at "lk") (by omega)) ?_
    intro x y s av ho hg ha hb
    refine (op_geI ha hb).mono (vbool_eq ?_ av)
    rw [decide_eq_decide]; omega
  · intro hd
    have hd' : l.length / 2 ≤ i := by simpa using hd
    rw [if_pos hd'] at hnx
    rw [← stB_snoc hnx]
    refine ht_cons (ht_aug fx (xs_on R _) (V₀ := VStr (stB (nx.take k))) (V₁ := VStr (l1 (cV a c b))) (by walk_at "lk") ?_ (.inl (by kernel_rfl!)) ?_) ht_nil
    · refine ev_ifexp (c := cV a c b) ?_ ?_ ?_
      · refine tst_Compare (V₁ := VInt (Txt.count (stB [a, c, b]) "b")) (V₂ := VInt 1) ?_ ev_int ?_
        · exact ev_count (ev_name C.kind (by walk_at "lk") (by kernel_rfl!)) ev_str
        · intro x y s av ho hg ha hb
          exact (op_gtI ha hb).mono (vbool_eq (near_count a c b) av)
      · intro h; rw [h]; exact ev_str
      · intro h; rw [h]; exact ev_str
    · intro x y s av ho ha hb
      exact op_iaddS (hsz _) ha hb
  · intro hd
    have hd' : ¬ l.length / 2 ≤ i := by simpa using hd
    rw [if_neg hd'] at hnx
    rw [← stB_snoc hnx]
    refine ht_cons (ht_if (c := decide (a = p ∧ c = !p)) (xs_on R _) ?_ ?_ ?_) ht_nil
    · refine tst_Compare (V₁ := VStr (Txt.slice (stB [a, c, b]) none (some 2))) (V₂ := VStr (stB [p, !p])) ?_ (ev_name C.kind (by walk_at "lk") (by kernel_rfl!)) ?_
      · refine ev_slice (kl := none) (ku := some 2) (ks := none) (V₁ := VStr (stB [a, c, b])) (ev_name C.kind (by walk_at "lk") (by kernel_rfl!)) ep_none (ep_some ev_int) ep_none ?_
        intro x vl vu vs sl s av ho hg ha hvl hvu hvs hsl
        exact op_sliceS ha hvl hvu hvs hsl (by rw [stB_len, sizeLine_eq]; show 3 ≤ 16777216; decide)
      · intro x y s av ho hg ha hb
        exact (op_eqS ha hb).mono (vbool_eq (near_two p a c b) av)
    · intro h1
      have h1' : a = p ∧ c = !p := by simpa using h1
      have hcell : cM p a c b = p := by unfold cM; rw [if_pos h1']
      rw [hcell]
      refine ht_cons (ht_aug fx (xs_on R _) (V₀ := VStr (stB (nx.take k))) (V₁ := VStr (l1 p)) (by walk_at "lk") ?_ (.inl (by kernel_rfl!)) ?_) ht_nil
      · refine ev_sub (V₁ := VStr (stB [p, !p])) (V₂ := VInt 0) (ev_name C.kind (by walk_at "lk") (by kernel_rfl!)) ev_int ?_
        intro x y s av ho hg ha hb
        exact op_itemS ha hb (by decide) (charAt_stB (i := 0) rfl) (fun _ _ => rfl)
      · intro x y s av ho ha hb
        exact op_iaddS (hsz _) ha hb
    · intro h1
      have h1' : ¬ (a = p ∧ c = !p) := by simpa using h1
      refine ht_cons (ht_aug fx (xs_on R _) (V₀ := VStr (stB (nx.take k))) (V₁ := VStr (l1 (cM p a c b))) (by walk_at "lk") ?_ (.inl (by kernel_rfl!)) ?_) ht_nil
      · refine ev_ifexp (c := decide (c = p ∧ b = !p)) ?_ ?_ ?_
        · refine tst_Compare (V₁ := VStr (Txt.slice (stB [a, c, b]) (some 1) none)) (V₂ := VStr (stB [p, !p])) ?_ (ev_name C.kind (by walk_at "lk") (by kernel_rfl!)) ?_
          · refine ev_slice (kl := some 1) (ku := none) (ks := none) (V₁ := VStr (stB [a, c, b])) (ev_name C.kind (by walk_at "lk") (by kernel_rfl!)) (ep_some ev_int) ep_none ep_none ?_
            intro x vl vu vs sl s av ho hg ha hvl hvu hvs hsl
            exact op_sliceS ha hvl hvu hvs hsl (by rw [stB_len, sizeLine_eq]; show 3 ≤ 16777216; decide)
          · intro x y s av ho hg ha hb
            exact (op_eqS ha hb).mono (vbool_eq (near_last p a c b) av)
        · intro h2
          have h2' : c = p ∧ b = !p := by simpa using h2
          have hcell : cM p a c b = !p := by unfold cM; rw [if_neg h1', if_pos h2']
          rw [hcell]
          refine ev_sub (V₁ := VStr (stB [p, !p])) (V₂ := VInt 1) (ev_name C.kind (by walk_at "lk") (by kernel_rfl!)) ev_int ?_
          intro x y s av ho hg ha hb
          exact op_itemS ha hb (by decide) (charAt_stB (i := 1) rfl) (fun _ _ => rfl)
        · intro h2
          have h2' : ¬ (c = p ∧ b = !p) := by simpa using h2
          have hcell : cM p a c b = c := by unfold cM; rw [if_neg h1', if_neg h2']
          rw [hcell, ← hc]
          refine ev_sub (V₁ := VStr (stB r)) (V₂ := VInt (k : Int)) (ev_name C.kind (by walk_at "lk") (by kernel_rfl!)) (ev_name C.kind (by walk_at "lk") (by kernel_rfl!)) ?_
          intro x y s av ho hg ha hb
          exact op_itemS ha hb (fits_small (by omega) (by omega)) (char_at hk) (fun _ _ => rfl)
      · intro x y s av ho ha hb
        exact op_iaddS (hsz _) ha hb
end
end Mine

end
section
namespace Mine
local macro_rules | `(tactic| walk_at "lk") => `(tactic| (repeat (first | with_reducible exact lk_head | refine lk_tail (by kernel_rfl!) ?_)))
local macro_rules | `(tactic| walk_at "sub") => `(tactic| ((repeat (refine List.forall_mem_cons.mpr ⟨by (dsimp only; walk_at "lk"), ?_⟩)); exact List.forall_mem_nil _))

section
variable {prog : Program} {w : World} {A : Around} {L f : Addr} {cd : Value} {h₀ : Heap} {defs : List DefItem} {names : List Str} {R : Addr} {ρ : Locs}

theorem ring_next (p : Bool) (h : Nat) (l : List Bool) (i : Nat) {k : Nat} (hk : k < (ringAt p h l i).length) :
    (ringAt p h l (i + 1))[k]? = some (if h ≤ i then cV ((ringAt p h l i).getD ((k + (ringAt p h l i).length - 1) % (ringAt p h l i).length) false) ((ringAt p h l i).getD k false) ((ringAt p h l i).getD ((k + 1) % (ringAt p h l i).length) false)
      else cM p ((ringAt p h l i).getD ((k + (ringAt p h l i).length - 1) % (ringAt p h l i).length) false) ((ringAt p h l i).getD k false) ((ringAt p h l i).getD ((k + 1) % (ringAt p h l i).length) false)) := by
  by_cases hi : h ≤ i
  · rw [if_pos hi, ringAt_vt _ _ _ _ hi, vtI_get hk]
  · rw [if_neg hi, ringAt_mv _ _ _ _ (by omega), mvI_get hk]

set_option maxRecDepth 20000 in
set_option maxHeartbeats 2000000 in
theorem s9_in {l : List Bool} {p : Bool} {i k : Nat} {xs : List Str} (C : Cx A (E1 L f cd) h₀ defs names) (fx : Fx (E1 L f cd) h₀ (fun b => b = R)) (hl : l.length ≤ 100) (hk : k < l.length) (hi : i ≤ 1000) :
    HT prog w A (E1 L f cd) h₀ (fun b => b = R) (("k", VInt k) :: r9 l (ringAt p (l.length / 2) l i) p R i ((ringAt p (l.length / 2) l (i + 1)).take k)) (XS R xs) (execs in9 (E1 L f cd))
      (r9 l (ringAt p (l.length / 2) l i) p R i ((ringAt p (l.length / 2) l (i + 1)).take (k + 1))) (XS R xs) := by
  have hlen := ringAt_len p (l.length / 2) l i
  have hlen' := ringAt_len p (l.length / 2) l (i + 1)
  have hk' : k < (ringAt p (l.length / 2) l i).length := by omega
  refine ht_cons (s9_near C fx hlen hl hk') ?_
  refine ht_cons (ht_sub (s9_due (nx := ringAt p (l.length / 2) l (i + 1)) C fx hlen hl hk' hi rfl hlen' (ring_next p _ l i hk')) ?_) ht_nil
  walk_at "sub"

set_option maxRecDepth 20000 in
set_option maxHeartbeats 2000000 in
theorem s9_body {l : List Bool} {p : Bool} {i : Nat} (C : Cx A (E1 L f cd) h₀ defs names) (fx : Fx (E1 L f cd) h₀ (fun b => b = R)) (n1 : ("range" : Str) ∉ names) (hl : l.length ≤ 100) (hi : i < l.length / 2 + l.length / 2) :
    HT prog w A (E1 L f cd) h₀ (fun b => b = R) (("turn", VInt i) :: r6 l p R) (XS R (ringsS p (l.length / 2) l (l.length / 2 + l.length / 2))) (execs bd9 (E1 L f cd)) (r6 l p R) (XS R (ringsS p (l.length / 2) l (l.length / 2 + l.length / 2))) := by
  have hlen := ringAt_len p (l.length / 2) l i
  have hlen' := ringAt_len p (l.length / 2) l (i + 1)
  refine ht_cons (ρ₁ := ("ring", VStr (stB (ringAt p (l.length / 2) l i))) :: ("turn", VInt i) :: r6 l p R) (ht_assign fx (xs_on R _) ?_ (.inr ⟨by kernel_rfl!, _, rfl⟩)) ?_
  · refine ev_sub (V₁ := VRef R) (V₂ := VInt i) (ev_name C.kind (by walk_at "lk") (by kernel_rfl!)) (ev_name C.kind (by walk_at "lk") (by kernel_rfl!)) ?_
    intro a b s av ho hg ha hb
    exact op_itemR ha hg.2.1 hb (by omega) (by omega) (ringsS_get p _ l (by omega)) (fun _ _ => rfl)
  refine ht_cons (ρ₁ := r9 l (ringAt p (l.length / 2) l i) p R i []) (ht_assign fx (xs_on R _) ?_ (.inl (by kernel_rfl!))) ?_
  · exact ev_str
  refine ht_cons (ρ₁ := r9 l (ringAt p (l.length / 2) l i) p R i ((ringAt p (l.length / 2) l (i + 1)).take l.length)) (X₁ := XS R (ringsS p (l.length / 2) l (l.length / 2 + l.length / 2))) ?_ ?_
  · refine ht_for_range (x := "k") (hX₀ := xs_on R _) l.length (fun j => r9 l (ringAt p (l.length / 2) l i) p R i ((ringAt p (l.length / 2) l (i + 1)).take j)) (fun _ => XS R (ringsS p (l.length / 2) l (l.length / 2 + l.length / 2))) fx (fun i => xs_on R _) C.handled ?_ ?_ (by omega) ?_ ?_ (.inl (by kernel_rfl!)) ?_
    · exact ev_builtin C (by decide +kernel) n1 (by kernel_rfl!) (by decide +kernel) (by decide +kernel) (by kernel_rfl!)
    · exact ev_name C.kind (by walk_at "lk") (by kernel_rfl!)
    · rw [List.take_zero]; walk_at "sub"
    · intro h hX; exact hX
    · intro k hk
      exact s9_in C fx hl hk (by omega)
  · rw [List.take_of_length_le (by omega)]
    refine ht_sub (ρ₁ := r9 l (ringAt p (l.length / 2) l i) p R i (ringAt p (l.length / 2) l (i + 1))) ?_ (by walk_at "sub")
    refine ht_cons (ht_if (c := false) (xs_on R _) ?_ (fun h => nomatch h) fun _ => ht_nil) ht_nil
    refine tst_Compare (V₁ := VStr (stB (ringAt p (l.length / 2) l (i + 1)))) (V₂ := VStr (stB (ringAt p (l.length / 2) l (i + 1)))) ?_ (ev_name C.kind (by walk_at "lk") (by kernel_rfl!)) ?_
    · refine ev_sub (V₁ := VRef R) (V₂ := VInt ((i : Int) + 1)) (ev_name C.kind (by walk_at "lk") (by kernel_rfl!)) ?_ ?_
      · refine ev_BinOp (V₁ := VInt i) (V₂ := VInt 1) (ev_name C.kind (by walk_at "lk") (by kernel_rfl!)) ev_int ?_
        intro a b s av ho hg ha hb
        exact op_addI ha hb
      · intro a b s av ho hg ha hb
        exact op_itemR ha hg.2.1 hb (by omega) (by omega) (ringsS_get p _ l (i := i + 1) (by omega)) (fun _ _ => rfl)
    · intro a b s av ho hg ha hb
      exact (op_neS ha hb).mono (vbool_eq (by simp) av)

set_option maxRecDepth 20000 in
set_option maxHeartbeats 2000000 in
theorem s9 {l : List Bool} {p : Bool} (C : Cx A (E1 L f cd) h₀ defs names) (fx : Fx (E1 L f cd) h₀ (fun b => b = R)) (n1 : ("range" : Str) ∉ names) (hl : l.length ≤ 100) :
    HT prog w A (E1 L f cd) h₀ (fun b => b = R) (r6 l p R) (XS R (ringsS p (l.length / 2) l (l.length / 2 + l.length / 2))) (exec (st1 8) (E1 L f cd)) (r6 l p R) (XS R (ringsS p (l.length / 2) l (l.length / 2 + l.length / 2))) := by
  refine ht_for_range (x := "turn") (hX₀ := xs_on R _) (l.length / 2 + l.length / 2) (fun _ => r6 l p R) (fun i => XS R (ringsS p (l.length / 2) l (l.length / 2 + l.length / 2))) fx (fun i => xs_on R _) C.handled ?_ ?_ (by omega) ?_ ?_ (.inl (by kernel_rfl!)) ?_
  · exact ev_builtin C (by decide +kernel) n1 (by kernel_rfl!) (by decide +kernel) (by decide +kernel) (by kernel_rfl!)
  · refine Ev.cast (V := VInt (2 * ((l.length / 2 : Nat) : Int))) ?_ (by rw [show 2 * ((l.length / 2 : Nat) : Int) = ((l.length / 2 + l.length / 2 : Nat) : Int) by omega])
    refine ev_BinOp (V₁ := VInt 2) (V₂ := VInt ((l.length / 2 : Nat) : Int)) ev_int (e_half C (by walk_at "lk") (by omega)) ?_
    intro a b s av ho hg ha hb
    exact op_mulI (IntMulOk.of_left (by decide +kernel)) ha hb
  · walk_at "sub"
  · intro h hX; exact hX
  · intro i hi
    exact s9_body C fx n1 hl hi
end
end Mine

end
section
namespace Mine
local macro_rules | `(tactic| walk_at "lk") => `(tactic| (repeat (first | with_reducible exact lk_head | refine lk_tail (by kernel_rfl!) ?_)))
local macro_rules | `(tactic| walk_at "sub") => `(tactic| ((repeat (refine List.forall_mem_cons.mpr ⟨by (dsimp only; walk_at "lk"), ?_⟩)); exact List.forall_mem_nil _))

theorem strsAre_items {av : Addr → Prop} {h : Heap} : ∀ {vs : List Value} {xs : List Str}, Items av h vs (xs.map VStr) → StrsAre vs xs
  | _, [], .nil => .nil
  | _, x :: xs, .cons hv r => by obtain ⟨t, rfl⟩ := hv; exact .cons x t (strsAre_items r)

section
variable {prog : Program} {w : World} {A : Around} {L f : Addr} {cd : Value} {h₀ : Heap} {defs : List DefItem} {names : List Str} {R : Addr} {ρ : Locs}

theorem body1 : dLaw1.body = [st1 0, st1 1, st1 2, st1 3, st1 4, st1 5, st1 6, st1 7, st1 8, .Return (some (.Constant (.bool true) 0 ⟨54, 11, 54, 15⟩)) ⟨54, 4, 54, 15⟩] := by kernel_rfl!

set_option maxRecDepth 20000 in
set_option maxHeartbeats 2000000 in
/-- behind the first statement -/
theorem law1_rest {ns : List Int} (C : Cx A (E1 L f cd) h₀ defs names) (hroom : A.depth < recursionLimit) (fx : Fx (E1 L f cd) h₀ (fun b => b = R)) (n0 : ("sorted" : Str) ∉ names) (n1 : ("range" : Str) ∉ names) (n2 : ("len" : Str) ∉ names) (n3 : ("sum" : Str) ∉ names)
    (d0 : dRep ∈ defs) (d1 : dLow ∈ defs) (d2 : dHigh ∈ defs) :
    HR prog w A (E1 L f cd) h₀ (fun b => b = R) [("rings", VRef R), ("script", VList (ns.map VInt))] (XS R [stB (bits1 ns)])
      (execs [st1 1, st1 2, st1 3, st1 4, st1 5, st1 6, st1 7, st1 8, .Return (some (.Constant (.bool true) 0 ⟨54, 11, 54, 15⟩)) ⟨54, 4, 54, 15⟩] (E1 L f cd)) (VBool true) := by
  have hlen := bits1_len ns
  have hl : (bits1 ns).length ≤ 15 := by omega
  have h0 : 7 ≤ (bits1 ns).length := by omega
  refine hr_cons (s2 C fx n2 (by walk_at "lk") (by omega)) ?_
  refine hr_cons (s3 (ns := ns) C fx n3 (by walk_at "lk")) ?_
  refine hr_cons (s4 (l := bits1 ns) C fx (by walk_at "lk") (by omega)) ?_
  refine hr_cons (ht_sub (ρ₂ := r6 (bits1 ns) (frB ns) R) (s5 (l := bits1 ns) C hroom fx n0 n2 d1 d2 (by walk_at "lk") (by omega) (by omega)) (by walk_at "sub")) ?_
  refine hr_cons (s6 C hroom fx n1 d0 (by omega) (by omega)) ?_
  refine hr_cons (s7 C hroom fx n0 n1 n2 d1 (by omega) (by omega)) ?_
  refine hr_cons (s8 (t := (ns.take 8).map bit) C (by simp; omega) (bits1_eq ns)) ?_
  refine hr_cons (s9 C fx n1 (by omega)) ?_
  exact hr_return (xs_on R _) ev_bool

/-- the first statement's shape -/
def Shp (env : Env) : Stmt → Prop
  | .Assign [.Name x px] (.List [e] lp) sp => starEach [e] env = (false, eval e env) :: starEach [] env ∧ swapsWith (.List [e] lp) (some (.Name x px)) sp.line env = pure false
  | _ => False
theorem shp1 : Shp (E1 L f cd) (st1 0) := by
  refine ⟨?_, ?_⟩
  · kernel_rfl!
  · kernel_rfl!

set_option maxRecDepth 20000 in
set_option maxHeartbeats 2000000 in
theorem law1_run {ns : List Int} (C : Cx A (E1 L f cd) h₀ defs names) (hroom : A.depth < recursionLimit) (hL : h₀.objs.size ≤ L) (n0 : ("sorted" : Str) ∉ names) (n1 : ("range" : Str) ∉ names) (n2 : ("len" : Str) ∉ names) (n3 : ("sum" : Str) ∉ names)
    (d0 : dRep ∈ defs) (d1 : dLow ∈ defs) (d2 : dHigh ∈ defs) (hns : ns.length ≤ 63) :
    HR prog w A (E1 L f cd) h₀ noMd [("script", VList (ns.map VInt))] noX (execs dLaw1.body (E1 L f cd)) (VBool true) := by
  rw [body1]
  intro s av hm ho hF hXs E Q hq
  obtain ⟨e, lp, px, sp, hst, he⟩ := s1 (prog := prog) (w := w) (ns := ns) (md := noMd) (X := noX) (hX := onNo) (ρ := [("script", VList (ns.map VInt))]) C hns (by walk_at "lk")
  have hsh := shp1 (L := L) (f := f) (cd := cd)
  rw [hst] at hsh
  obtain ⟨hs1, hs2⟩ := hsh
  rw [hst]
  have fx0 : Fx (E1 L f cd) h₀ noMd := ⟨C.kind, cel1 hL, mdOk_none⟩
  refine wpAny_execs_cons ?_
  refine assign_list_k (hX := onNo) (Vs := [VStr (stB (bits1 ns))]) fx0 ?a1 (.inl ?a2) ?a3 hs2 hm ho hF hXs ?a5
  case a1 => exact ae_cons he ae_nil hs1
  case a2 => kernel_rfl!
  case a3 => rw [sizeLine_eq]; simp
  case a5 =>
    intro R s' vs hR hpl hits hF' _ ho' mv
    have hX1 : XS R [stB (bits1 ns)] s'.heap := ⟨vs.toArray, hpl, strsAre_items (xs := [stB (bits1 ns)]) hits⟩
    obtain ⟨oL, esL, epL, hoL, hdL⟩ := hF.locals
    have fx1 : Fx (E1 L f cd) h₀ (fun b => b = R) := by
      refine ⟨C.kind, cel1 hL, ?_, ?_, ?_⟩
      · intro b hb hb'; rw [← hb', hb, hR] at hoL; cases hoL
      · rintro b n rfl hc; obtain ⟨v, o, e, _⟩ := hF.cellAt hc; rw [hR] at e; cases e
      · rintro b rfl; exact none_of_kp hF.keep hR
    refine law1_rest (prog := prog) (w := w) (ns := ns) (R := R) C hroom fx1 n0 n1 n2 n3 d0 d1 d2 s' (fun b => av b ∨ b = R) (fun b hb => .inr hb) ho' hF' hX1 E Q fun v s'' hv hk mv' => ?_
    refine hq v s'' ((VBool true).grow hv fun b hb => .inl (.inl hb)) hk ?_
    obtain ⟨h2, t2, rfl, k2⟩ := mv
    obtain ⟨h3, t3, rfl, k3⟩ := mv'
    exact ⟨h3, t3, rfl, fun b o a1 a2 a3 e => k3 b o a1 a2 (by rintro rfl; rw [hR] at e; cases e) (k2 b o a1 a2 a3 e)⟩
end
end Mine

end
section
namespace Mine

theorem cells1 {L f : Addr} {cd : Value} : (E1 L f cd).cells = [(("ring" : Str), L + 1 + 1), (("size" : Str), L + 1)] := by rfl

theorem locals1 {L f : Addr} {cd : Value} : (E1 L f cd).locals = L := by kernel_rfl!
theorem room1 {L fa : Addr} {cd : Value} : (callerA.deeper (E1 L fa cd)).depth < recursionLimit := by rw [depth_deeper, depth_caller]; decide
theorem cx1 {L fa : Addr} {cd : Value} {h : Heap} {defs names} (GL : GlobAt defs names h) : Cx (callerA.deeper (E1 L fa cd)) (E1 L fa cd) h defs names := by
  refine ⟨?_, ?_, ?_, ?_, GL⟩
  · kernel_rfl!
  · kernel_rfl!
  · kernel_rfl!
  · kernel_rfl!
set_option maxRecDepth 20000 in
set_option maxHeartbeats 200000 in
theorem law1_fin {prog : Program} {w : World} {N : Nat} {mg mb : Str → Option Value} {defs : List DefItem} {consts objs} {names : List Str} {s₁ : Shared} {h₁ : Heap} {tk : Nat} {L fa a : Addr} {cd : Value} {m : Str → Option Value} {vs : List Value} {ns : List Int} {o1 o2 : Obj} {c1 c2 : Option Value}
    {E : Value → Shared → Prop} {Q : Flow → Shared → Prop}
    (GL : Glob N mg mb defs consts objs names s₁.heap) (d0 : dRep ∈ defs) (d1 : dLow ∈ defs) (d2 : dHigh ∈ defs) (n0 : ("sorted" : Str) ∉ names) (n1 : ("range" : Str) ∉ names) (n2 : ("len" : Str) ∉ names) (n3 : ("sum" : Str) ∉ names)
    (hsz : s₁.heap.objs.size ≤ L) (F : Fr s₁.heap L h₁ m) (hm : m "script" = some (.ref a))
    (N0 : News s₁.heap L h₁ [(L + 1 + 1, o1), (L + 1, o2)]) (e1 : o1.data = .cell c1) (e2 : o2.data = .cell c2)
    (hL : s₁.heap.IsList a vs.toArray) (hI : IntsAre vs ns) (hns : ¬ ((63 : Nat) : Int) < ((ns.length : Nat) : Int))
    (hq : ∀ h' tk', Kp s₁.heap h' → Q (.ret (.bool true)) { heap := h', gens := s₁.gens, drawn := s₁.drawn, toks := tk', os := s₁.os }) :
    wpAny (model prog w) (callerA.deeper (E1 L fa cd)) (execs dLaw1.body (E1 L fa cd)) Q E { heap := h₁, gens := s₁.gens, drawn := s₁.drawn, toks := tk, os := s₁.os } := by
  have hG : GlobAt defs names s₁.heap := ⟨N, mg, mb, consts, objs, GL⟩
  have C := cx1 (L := L) (fa := fa) (cd := cd) hG
  have hr := room1 (L := L) (fa := fa) (cd := cd)
  have H := @law1_run prog w (callerA.deeper (E1 L fa cd)) L fa cd s₁.heap defs names ns C hr hsz n0 n1 n2 n3 d0 d1 d2 (Nat.le_of_not_lt fun h => hns (Int.ofNat_lt.mpr h))
  have hF : FrameIs (E1 L fa cd) s₁.heap [("script", VList (ns.map VInt))] (fun _ => False) h₁ := by
    have F' : Fr s₁.heap (E1 L fa cd).locals h₁ m := locals1.symm ▸ F
    refine ⟨m, F', ?_, ?_⟩
    · intro x V hx
      by_cases hxp : x = "script"
      · subst hxp
        rw [List.lookup_cons_self] at hx
        obtain rfl := Option.some.inj hx
        obtain ⟨o, ho, hc, n, hd⟩ := hL
        exact ⟨.ref a, ⟨a, vs, rfl, id, ⟨o, F.keep _ _ ho, hc, n, hd⟩, ints_of hI⟩, .inl ⟨by kernel_rfl!, hm⟩⟩
      · rw [List.lookup_cons, show (x == Str.ofString "script") = false by simpa using hxp] at hx; simp at hx
    · intro n c hc
      rw [cells1] at hc
      simp only [List.lookup_cons, List.lookup_nil] at hc
      have g1 := N0.get (a := L + 1 + 1) (o := o1) (by simp)
      have g2 := N0.get (a := L + 1) (o := o2) (by simp)
      split at hc
      · obtain rfl := Option.some.inj hc; exact ⟨_, o1, g1, e1⟩
      · split at hc
        · obtain rfl := Option.some.inj hc; exact ⟨_, o2, g2, e2⟩
        · cases hc
  have a1 : ∀ b, noMd b → (fun (_ : Addr) => False) b := fun _ h => h
  have a2 : Off (fun (_ : Addr) => False) h₁ := fun _ h => False.elim h
  have key := @H { heap := h₁, gens := s₁.gens, drawn := s₁.drawn, toks := tk, os := s₁.os } (fun _ => False) a1 a2 hF trivial E Q
  refine @key ?_
  rintro v s' rfl hk ⟨h', tk', rfl, _⟩
  exact hq h' tk' hk
end Mine

end
namespace Mine
theorem goodW_kp {c : ClaimW} {cl : Str → Option Addr} {mean : ExcName → Option Value} {args : List WData} {s₁ s' : Shared} {b : Bool} (F : Kp s₁.heap s'.heap) (hg : s'.gens = #[]) (hn : ∀ cls, c.raises args cls = false) (hp : c.post args (.bool b) args = true) (hos : s'.os = s₁.os := by rfl) :
    GoodW c cl mean args s₁ (.ok (.ret (.bool b))) s' := ⟨.inl ⟨.bool b, .bool b, [], rfl, hn, .bool b, hp, unshared_nil⟩, F, hos, hg⟩

end Mine
set_option maxRecDepth 100000 in
set_option maxHeartbeats 8000000 in
theorem PySem.Challenge.cw_rl0006_01_holds : PySem.Challenge.rw_rl0006_01.Holds := by
  w_on; o_law; k_head; (case hw => w_witness2)
  k_go0
  all_goals try k_fold
  refine' @Mine.law1_fin _ _ _ _ _ _ _ _ _ _ _ _ _ _ _ _ _ _ _ _ _ _ _ _ _ ?GL ?d0 ?d1 ?d2 ?n0 ?n1 ?n2 ?n3 ?hsz ?F ?hm ?N0 ?e1 ?e2 ?hL ?hI ?hns ?hq
  case GL => assumption
  case F => assumption
  case N0 => assumption
  case e1 => assumption
  case e2 => assumption
  case hI => assumption
  case hL => assumption
  case hns => assumption
  case hsz => exact Nat.le_refl _
  case hm => kernel_rfl!
  case d0 => exact List.mem_of_getElem? (i := 0) (by kernel_rfl!)
  case d1 => exact List.mem_of_getElem? (i := 1) (by kernel_rfl!)
  case d2 => exact List.mem_of_getElem? (i := 2) (by kernel_rfl!)
  case n0 => decide +kernel
  case n1 => decide +kernel
  case n2 => decide +kernel
  case n3 => decide +kernel
  case hq =>
    intro h' tk' hk
    (show GoodW _ _ _ _ _ (.ok (.ret (.bool _))) _)
    refine' Mine.goodW_kp hk ?hg (raisesW_false ?_) ?_
    · assumption
    · wrow_none_raised
    · kc_post
