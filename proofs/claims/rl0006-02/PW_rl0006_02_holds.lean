import PyProof.Rows.All
import Wide.All
import OpenK.AllK
import Wide.FinOn
import PySem.Challenge.RW_rl0006_02
open PySem PySem.W PySem.Calls PyProof.Rows
set_option Elab.async false
set_option linter.unusedVariables false
section
namespace Mine

/-- all objects stay as they are -/
abbrev Kp (h h' : Heap) : Prop := ∀ b o, h.get? b = some o → h'.get? b = some o
/-- the lists and tuples outside av stay as they are -/
abbrev SqK (av : Addr → Prop) (h h' : Heap) : Prop := ∀ b o, ¬ av b → (∃ xs n, o.data = .seq xs n) → h.get? b = some o → h'.get? b = some o
theorem Kp.sqk {av : Addr → Prop} {h h' : Heap} (k : Kp h h') : SqK av h h' := fun b o _ _ e => k b o e
theorem Kp.trans {h h' h'' : Heap} (k : Kp h h') (k' : Kp h' h'') : Kp h h'' := fun b o e => k' b o (k b o e)

/-- what a value is, up to tokens and addresses; av: addresses that it does not lean on -/
structure VP where
  P : (Addr → Prop) → Heap → Value → Prop
  up : ∀ {av : Addr → Prop} {h h' : Heap} {v : Value}, P av h v → SqK av h h' → P av h' v
  grow : ∀ {av av' : Addr → Prop} {h : Heap} {v : Value}, P av h v → (∀ b, av' b → av b ∨ h.get? b = none) → P av' h v

def VInt (i : Int) : VP := ⟨fun _ _ v => ∃ t, v = .int i t, fun h _ => h, fun h _ => h⟩
def VStr (x : Str) : VP := ⟨fun _ _ v => ∃ t, v = .str x t, fun h _ => h, fun h _ => h⟩
def VBool (b : Bool) : VP := ⟨fun _ _ v => v = .bool b, fun h _ => h, fun h _ => h⟩
def VRef (a : Addr) : VP := ⟨fun _ _ v => v = .ref a, fun h _ => h, fun h _ => h⟩
def VNone : VP := ⟨fun _ _ v => v = .none, fun h _ => h, fun h _ => h⟩
def VEq (w : Value) : VP := ⟨fun _ _ v => v = w, fun h _ => h, fun h _ => h⟩

theorem Paired.imp {α β : Type} {F G : α → β → Prop} (hi : ∀ a b, F a b → G a b) : ∀ {l : List α} {m : List β}, Paired F l m → Paired G l m
  | _, _, .nil => .nil
  | _, _, .cons h t => .cons (hi _ _ h) (Paired.imp hi t)
theorem Paired.get {α β : Type} {F : α → β → Prop} : ∀ {l : List α} {m : List β}, Paired F l m → ∀ {i : Nat} {b : β}, m[i]? = some b → ∃ a, l[i]? = some a ∧ F a b
  | _, _, .nil, i, b, h => by simp at h
  | _, _, .cons (a := a) h t, 0, b', hb => by simp at hb; subst hb; exact ⟨a, by simp, h⟩
  | _, _, .cons h t, i + 1, b, hb => by
    obtain ⟨a, ha, hF⟩ := Paired.get t (i := i) (b := b) (by simpa using hb)
    exact ⟨a, by simpa using ha, hF⟩
theorem Paired.get' {α β : Type} {F : α → β → Prop} : ∀ {l : List α} {m : List β}, Paired F l m → ∀ {i : Nat} {a : α}, l[i]? = some a → ∃ b, m[i]? = some b ∧ F a b
  | _, _, .nil, i, b, h => by simp at h
  | _, _, .cons (b := b) h t, 0, a', hb => by simp at hb; subst hb; exact ⟨b, by simp, h⟩
  | _, _, .cons h t, i + 1, b, hb => by
    obtain ⟨a, ha, hF⟩ := Paired.get' t (i := i) (a := b) (by simpa using hb)
    exact ⟨a, by simpa using ha, hF⟩
theorem Paired.append {α β : Type} {F : α → β → Prop} : ∀ {l l' : List α} {m m' : List β}, Paired F l m → Paired F l' m' → Paired F (l ++ l') (m ++ m')
  | _, _, _, _, .nil, h => h
  | _, _, _, _, .cons h t, h' => .cons h (Paired.append t h')
theorem Paired.take {α β : Type} {F : α → β → Prop} : ∀ {l : List α} {m : List β} (n : Nat), Paired F l m → Paired F (l.take n) (m.take n)
  | _, _, n, .nil => by simp; exact .nil
  | _, _, 0, .cons h t => by simp; exact .nil
  | _, _, n + 1, .cons h t => by simpa using Paired.cons h (Paired.take n t)
theorem Paired.drop {α β : Type} {F : α → β → Prop} : ∀ {l : List α} {m : List β} (n : Nat), Paired F l m → Paired F (l.drop n) (m.drop n)
  | _, _, n, .nil => by simp; exact .nil
  | _, _, 0, .cons h t => by simpa using Paired.cons h t
  | _, _, n + 1, .cons h t => by simpa using Paired.drop n t
theorem Paired.reverse {α β : Type} {F : α → β → Prop} : ∀ {l : List α} {m : List β}, Paired F l m → Paired F l.reverse m.reverse
  | _, _, .nil => by simp; exact .nil
  | _, _, .cons h t => by simpa using Paired.append (Paired.reverse t) (.cons h .nil)

/-- the items of a list, one VP each -/
def Items (av : Addr → Prop) (h : Heap) (vs : List Value) (Vs : List VP) : Prop := Paired (fun v (V : VP) => V.P av h v) vs Vs
theorem Items.up {av : Addr → Prop} {h h' : Heap} {vs : List Value} {Vs : List VP} (x : Items av h vs Vs) (k : SqK av h h') : Items av h' vs Vs := Paired.imp (fun _ V p => V.up p k) x
theorem Items.grow {av av' : Addr → Prop} {h : Heap} {vs : List Value} {Vs : List VP} (x : Items av h vs Vs) (k : ∀ b, av' b → av b ∨ h.get? b = none) : Items av' h vs Vs := Paired.imp (fun _ V p => V.grow p k) x
theorem Items.length {av : Addr → Prop} {h : Heap} {vs : List Value} {Vs : List VP} (x : Items av h vs Vs) : vs.length = Vs.length := Paired.length x

def VList (Vs : List VP) : VP where
  P := fun av h v => ∃ a vs, v = .ref a ∧ ¬ av a ∧ h.IsList a vs.toArray ∧ Items av h vs Vs
  up := by
    rintro av h h' v ⟨a, vs, e, ha, ⟨o, ho, hc, n, hd⟩, hi⟩ k
    exact ⟨a, vs, e, ha, ⟨o, k a o ha ⟨_, n, hd⟩ ho, hc, n, hd⟩, hi.up k⟩
  grow := by
    rintro av av' h v ⟨a, vs, e, ha, hl, hi⟩ k
    refine ⟨a, vs, e, (fun hb => (k a hb).elim ha fun hn => ?_), hl, hi.grow k⟩
    obtain ⟨o, ho, _⟩ := hl; rw [hn] at ho; cases ho
def VTup (Vs : List VP) : VP where
  P := fun av h v => ∃ a vs, v = .ref a ∧ ¬ av a ∧ IsTup h a vs.toArray ∧ Items av h vs Vs
  up := by
    rintro av h h' v ⟨a, vs, e, ha, ⟨o, ho, hc, n, hd⟩, hi⟩ k
    exact ⟨a, vs, e, ha, ⟨o, k a o ha ⟨_, n, hd⟩ ho, hc, n, hd⟩, hi.up k⟩
  grow := by
    rintro av av' h v ⟨a, vs, e, ha, hl, hi⟩ k
    refine ⟨a, vs, e, (fun hb => (k a hb).elim ha fun hn => ?_), hl, hi.grow k⟩
    obtain ⟨o, ho, _⟩ := hl; rw [hn] at ho; cases ho

/-- what is known of a heap; kept by growing -/
structure HP where
  P : (Addr → Prop) → Heap → Prop
  up : ∀ {av : Addr → Prop} {h h' : Heap}, P av h → Kp h h' → P av h'

/-- the one state goes over into the other: the heap grows, all else stays -/
def Kps (s s' : Shared) : Prop := Keeps s s'
theorem Kps.refl (s : Shared) : Kps s s := ⟨s.heap, s.toks, rfl, fun _ _ e => e⟩
theorem Kps.trans {s s' s'' : Shared} (h : Kps s s') (h' : Kps s' s'') : Kps s s'' := by
  obtain ⟨h1, t1, rfl, k1⟩ := h
  obtain ⟨h2, t2, rfl, k2⟩ := h'
  exact ⟨h2, t2, rfl, fun b o e => k2 b o (k1 b o e)⟩
theorem Kps.kp {s s' : Shared} (h : Kps s s') : Kp s.heap s'.heap := by obtain ⟨h1, t1, rfl, k1⟩ := h; exact k1
theorem Kps.sqk {av : Addr → Prop} {s s' : Shared} (h : Kps s s') : SqK av s.heap s'.heap := Kp.sqk h.kp
theorem Kps.tok {s : Shared} (k : Nat) : Kps s { s with toks := k } := ⟨s.heap, k, rfl, fun _ _ e => e⟩
theorem Kps.push {s : Shared} (o : Obj) (k : Nat) : Kps s { s with heap := s.heap.push o, toks := k } := ⟨_, k, rfl, fun b _ e => Heap.get?_push_of_some _ e⟩
theorem Kps.of {s : Shared} {h' : Heap} {k : Nat} (x : Kp s.heap h') : Kps s { s with heap := h', toks := k } := ⟨h', k, rfl, x⟩

/-- av is off what will be made -/
def Off (av : Addr → Prop) (h : Heap) : Prop := ∀ b, av b → ∃ o, h.get? b = some o
theorem Off.up {av : Addr → Prop} {h h' : Heap} (x : Off av h) (k : Kp h h') : Off av h' := fun b hb => let ⟨o, e⟩ := x b hb; ⟨o, k b o e⟩
theorem Off.new {av : Addr → Prop} {h : Heap} (x : Off av h) : ¬ av h.objs.size := fun hb => let ⟨_, e⟩ := x _ hb; Nat.lt_irrefl _ (Heap.lt_size e)
theorem Off.fresh {av : Addr → Prop} {h : Heap} {a : Addr} (x : Off av h) (ha : h.get? a = none) : ¬ av a := fun hb => by obtain ⟨_, e⟩ := x _ hb; rw [ha] at e; cases e

/-- from this state the tree gives a V and keeps the heap -/
def Op {α : Type} (prog : Program) (w : World) (A : Around) (t : Sem α) (s : Shared) (V : Heap → α → Prop) : Prop :=
  ∀ (E : Value → Shared → Prop) (Q : α → Shared → Prop), (∀ y s', V s'.heap y → Kps s s' → Q y s') → wpAny (model prog w) A t Q E s
/-- from every state that G tells of -/
def Tr {α : Type} (prog : Program) (w : World) (A : Around) (G : HP) (t : Sem α) (V : (Addr → Prop) → Heap → α → Prop) : Prop :=
  ∀ (s : Shared) (av : Addr → Prop), Off av s.heap → G.P av s.heap → Op prog w A t s (V av)
abbrev Ev (prog : Program) (w : World) (A : Around) (env : Env) (G : HP) (e : Expr) (V : VP) : Prop := Tr prog w A G (eval e env) V.P
abbrev Tst (prog : Program) (w : World) (A : Around) (env : Env) (G : HP) (e : Expr) (b : Bool) : Prop := Tr prog w A G (isTrue e env (eval e env)) (fun _ _ r => r = b)

section
variable {prog : Program} {w : World} {A : Around} {env : Env} {G : HP}

theorem Op.of_post {α : Type} {t : Sem α} {s : Shared} {V : Heap → α → Prop} (h : ∀ E, wpAny (model prog w) A t (fun y s' => V s'.heap y ∧ Keeps s s') E s) : Op prog w A t s V :=
  fun E Q hq => wpAny_mono (h E) (fun y s' p => hq y s' p.1 p.2) fun _ _ e => e
theorem Op.post {α : Type} {t : Sem α} {s : Shared} {V : Heap → α → Prop} (h : Op prog w A t s V) (E) : wpAny (model prog w) A t (fun y s' => V s'.heap y ∧ Keeps s s') E s := h E _ fun _ _ p k => ⟨p, k⟩
theorem Op.mono {α : Type} {t : Sem α} {s : Shared} {V W : Heap → α → Prop} (h : Op prog w A t s V) (hi : ∀ h y, V h y → W h y) : Op prog w A t s W := fun E Q hq => h E Q fun y s' p k => hq y s' (hi _ _ p) k

theorem ev_int {i : Int} {k pos} : Ev prog w A env G (.Constant (.int i) k pos) (VInt i) := fun s av _ _ E Q hq => wpAny_Constant_int (hq _ _ ⟨_, rfl⟩ (Kps.tok _))
theorem ev_str {x : Str} {k pos} : Ev prog w A env G (.Constant (.str x) k pos) (VStr x) := fun s av _ _ E Q hq => wpAny_Constant_str (hq _ _ ⟨_, rfl⟩ (Kps.tok _))
theorem ev_bool {b : Bool} {k pos} : Ev prog w A env G (.Constant (.bool b) k pos) (VBool b) := fun s av _ _ E Q hq => wpAny_Constant_bool (hq _ _ rfl (Kps.refl _))

theorem ev_BinOp {l op r pos} {V₁ V₂ V : VP} (h₁ : Ev prog w A env G l V₁) (h₂ : Ev prog w A env G r V₂)
    (hop : ∀ a b (s : Shared) av, Off av s.heap → G.P av s.heap → V₁.P av s.heap a → V₂.P av s.heap b → Op prog w A (binaryOp op a b) s (V.P av)) :
    Ev prog w A env G (.BinOp l op r pos) V := fun s av ho hg E Q hq =>
  wpAny_BinOp (h₁ s av ho hg E _ fun a s₁ ha k₁ => h₂ s₁ av (ho.up k₁.kp) (G.up hg k₁.kp) E _ fun b s₂ hb k₂ =>
    hop a b s₂ av (ho.up (k₁.trans k₂).kp) (G.up hg (k₁.trans k₂).kp) (V₁.up ha k₂.sqk) hb E Q fun y s₃ hy k₃ => hq y s₃ hy ((k₁.trans k₂).trans k₃))

theorem ev_Compare {l op r pos} {V₁ V₂ V : VP} (h₁ : Ev prog w A env G l V₁) (h₂ : Ev prog w A env G r V₂)
    (hop : ∀ a b (s : Shared) av, Off av s.heap → G.P av s.heap → V₁.P av s.heap a → V₂.P av s.heap b → Op prog w A (compareOp op a b) s (V.P av))
    (hm : behindInMarks op r = false := by kernel_rfl!) :
    Ev prog w A env G (.Compare l [op] [r] pos) V := fun s av ho hg E Q hq =>
  wpAny_Compare1 (h₁ s av ho hg E _ fun a s₁ ha k₁ => h₂ s₁ av (ho.up k₁.kp) (G.up hg k₁.kp) E _ fun b s₂ hb k₂ =>
    hop a b s₂ av (ho.up (k₁.trans k₂).kp) (G.up hg (k₁.trans k₂).kp) (V₁.up ha k₂.sqk) hb E Q fun y s₃ hy k₃ => hq y s₃ hy ((k₁.trans k₂).trans k₃)) hm

theorem tst_Compare {l op r pos} {V₁ V₂ : VP} {c : Bool} (h₁ : Ev prog w A env G l V₁) (h₂ : Ev prog w A env G r V₂)
    (hop : ∀ a b (s : Shared) av, Off av s.heap → G.P av s.heap → V₁.P av s.heap a → V₂.P av s.heap b → Op prog w A (compareOp op a b) s ((VBool c).P av))
    (hm : behindInMarks op r = false := by kernel_rfl!) :
    Tst prog w A env G (.Compare l [op] [r] pos) c := fun s av ho hg E Q hq =>
  wpAny_isTrue_Compare1 (h₁ s av ho hg E _ fun a s₁ ha k₁ => h₂ s₁ av (ho.up k₁.kp) (G.up hg k₁.kp) E _ fun b s₂ hb k₂ =>
    hop a b s₂ av (ho.up (k₁.trans k₂).kp) (G.up hg (k₁.trans k₂).kp) (V₁.up ha k₂.sqk) hb E _ fun y s₃ hy k₃ => by
      obtain rfl : y = .bool c := hy
      exact wpAny_truthy_bool (hq _ _ rfl ((k₁.trans k₂).trans k₃))) hm
end
end Mine

end
section
namespace Mine

/-- a name's kind and, of a cell, its address -/
def VarAt (env : Env) (m : Str → Option Value) (h : Heap) (x : Str) (v : Value) : Prop :=
  (env.kindOf x = some .local ∧ m x = some v) ∨ ((env.kindOf x = some .cell ∨ (env.kindOf x = some .free ∧ (x == ("__classdict__" : Str)) = false)) ∧ ∃ c, env.cells.lookup x = some c ∧ h.IsCell c (some v))

abbrev Locs := List (Str × VP)

structure FrI (env : Env) (h₀ : Heap) (ρ : Locs) (av : Addr → Prop) (h : Heap) (m : Str → Option Value) : Prop where
  fr : Fr h₀ env.locals h m
  vars : ∀ x V, ρ.lookup x = some V → ∃ v, V.P av h v ∧ VarAt env m h x v
  cells : ∀ n c, env.cells.lookup n = some c → ∃ v, h.IsCell c v

/-- the frame: its names and what they hold -/
def FrameIs (env : Env) (h₀ : Heap) (ρ : Locs) (av : Addr → Prop) (h : Heap) : Prop := ∃ m, FrI env h₀ ρ av h m

theorem FrameIs.up {env : Env} {h₀ : Heap} {ρ : Locs} {av : Addr → Prop} {h h' : Heap} (x : FrameIs env h₀ ρ av h) (k : Kp h h') : FrameIs env h₀ ρ av h' := by
  obtain ⟨m, F, V, C⟩ := x
  refine ⟨m, ⟨F.ns.keeps k, fun b o e => k b o (F.keep b o e), F.above⟩, fun y W hy => ?_, fun n c hc => ?_⟩
  · obtain ⟨v, hv, hx⟩ := V y W hy
    refine ⟨v, W.up hv (Kp.sqk k), ?_⟩
    rcases hx with h1 | ⟨h1, c, hc, hv⟩
    · exact .inl h1
    · exact .inr ⟨h1, c, hc, hv.keeps k⟩
  · obtain ⟨v, hv⟩ := C n c hc
    exact ⟨v, hv.keeps k⟩
theorem FrameIs.grow {env : Env} {h₀ : Heap} {ρ : Locs} {av av' : Addr → Prop} {h : Heap} (x : FrameIs env h₀ ρ av h) (k : ∀ b, av' b → av b ∨ h.get? b = none) : FrameIs env h₀ ρ av' h := by
  obtain ⟨m, F, V, C⟩ := x
  exact ⟨m, F, fun y W hy => let ⟨v, hv, hx⟩ := V y W hy; ⟨v, W.grow hv k, hx⟩, C⟩
theorem FrameIs.sub {env : Env} {h₀ : Heap} {ρ ρ' : Locs} {av : Addr → Prop} {h : Heap} (x : FrameIs env h₀ ρ av h) (k : ∀ p ∈ ρ', ρ.lookup p.1 = some p.2) : FrameIs env h₀ ρ' av h := by
  obtain ⟨m, F, V, C⟩ := x
  refine ⟨m, F, fun y W hy => V y W ?_, C⟩
  exact k (y, W) (mem_of_lookup hy)

/-- facts about the changing lists alone -/
def OnMd (md : Addr → Prop) (X : Heap → Prop) : Prop := ∀ h h', X h → (∀ b o, md b → h.get? b = some o → h'.get? b = some o) → X h'
theorem OnMd.kp {md : Addr → Prop} {X : Heap → Prop} (h : OnMd md X) : ∀ h h', X h → Kp h h' → X h' := fun a b x k => h a b x fun c o _ e => k c o e
abbrev noMd : Addr → Prop := fun _ => False
abbrev noX : Heap → Prop := fun _ => True
theorem onNo {md : Addr → Prop} : OnMd md noX := fun _ _ _ _ => trivial

/-- the frame, and a fact of the lists that may change -/
def frHP (env : Env) (h₀ : Heap) (ρ : Locs) (md : Addr → Prop) (X : Heap → Prop) (hX : OnMd md X) : HP :=
  ⟨fun av h => FrameIs env h₀ ρ av h ∧ X h ∧ ∀ b, md b → av b, fun p k => ⟨p.1.up k, hX.kp _ _ p.2.1 k, p.2.2⟩⟩
abbrev frP (env : Env) (h₀ : Heap) (ρ : Locs) : HP := frHP env h₀ ρ noMd noX onNo

/-- what does not change within a call of the law's text -/
structure Cx (A : Around) (env : Env) (h₀ : Heap) (defs : List DefItem) (names : List Str) : Prop where
  kind : env.scope.kind = .function
  globals : env.globals = mainGlobals
  builtins : env.builtins = builtinsNs
  handled : A.handled = none
  glob : ∃ N mg mb consts objs, Glob N mg mb defs consts objs names h₀

section
variable {prog : Program} {w : World} {A : Around} {env : Env} {h₀ : Heap} {ρ : Locs} {md : Addr → Prop} {X : Heap → Prop} {hX : OnMd md X} {defs : List DefItem} {names : List Str}

theorem loadVar {x : Str} {V : VP} (hk : env.scope.kind = .function) (hρ : ρ.lookup x = some V) : Tr prog w A (frHP env h₀ ρ md X hX) (loadName env x) V.P := by
  rintro s av ho ⟨⟨m, F, Vs, C⟩, hx⟩ E Q hq
  obtain ⟨v, hv, h1⟩ := Vs x V hρ
  rcases h1 with ⟨hl, hm⟩ | ⟨hl, c, hc, hcv⟩
  · exact wpAny_loadName_local hk hl F.ns hm (hq _ _ hv (Kps.refl _))
  · rcases hl with hl | ⟨hl, hn⟩
    · exact wpAny_loadName_cell hk hl hc hcv (hq _ _ hv (Kps.refl _))
    · exact wpAny_loadName_free hk hl hc hcv (hq _ _ hv (Kps.refl _)) hn

theorem ev_name {x : Str} {pos : Pos} {V : VP} (hk : env.scope.kind = .function) (hρ : ρ.lookup x = some V) (hd : (x == ("__debug__" : Str)) = false := by decide) :
    Ev prog w A env (frHP env h₀ ρ md X hX) (.Name x pos) V := fun s av ho hg E Q hq => wpAny_Name (loadVar hk hρ s av ho hg E Q hq) hd

theorem ev_builtin {x : Str} {pos : Pos} {v : Value} (C : Cx A env h₀ defs names) (hv : bootBuiltins x = some v)
    (hfree : x ∉ names) (hx : env.kindOf x = some .globalImplicit) (hboot : x ∉ bootMainNames := by decide) (hn : x ≠ "__name__" := by decide) (hd : (x == ("__debug__" : Str)) = false := by decide) :
    Ev prog w A env (frHP env h₀ ρ md X hX) (.Name x pos) (VEq v) := by
  rintro s av ho ⟨⟨m, F, Vs, _⟩, _⟩ E Q hq
  obtain ⟨N, mg, mb, consts, objs, G⟩ := C.glob
  have G' := G.keeps F.keep
  exact Name_function_global C.kind hx (loadGlobal_builtin (C.globals ▸ G'.g) (G'.free x hfree hboot) (C.builtins ▸ G'.b) ((G'.builtins x hn).trans hv) (hq _ _ rfl (Kps.refl _))) hd
end
end Mine

end
section
namespace Mine

section
variable {prog : Program} {w : World} {A : Around} {env : Env} {G : HP}

abbrev ArgsEv (prog : Program) (w : World) (A : Around) (env : Env) (G : HP) (pos : Pos) (es : List Expr) (Vs : List VP) : Prop :=
  Tr prog w A G (spliced (backTo pos (starEach es env))) (fun av h vs => Items av h vs Vs)
theorem ae_nil {pos : Pos} : ArgsEv prog w A env G pos [] [] := fun s av ho hg E Q hq => args_nil (hq _ _ .nil (Kps.refl _))
theorem ae_cons {pos : Pos} {e : Expr} {rest : List Expr} {V : VP} {Vs : List VP} (h : Ev prog w A env G e V) (hr : ArgsEv prog w A env G pos rest Vs)
    (he : starEach (e :: rest) env = (false, eval e env) :: starEach rest env := by kernel_rfl!) : ArgsEv prog w A env G pos (e :: rest) (V :: Vs) :=
  fun s av ho hg E Q hq => args_cons (h s av ho hg E _ fun v s₁ hv k₁ => hr s₁ av (ho.up k₁.kp) (G.up hg k₁.kp) E _ fun vs s₂ hvs k₂ => hq _ _ (.cons (V.up hv k₂.sqk) hvs) (k₁.trans k₂)) he

/-- a built-in function by its name -/
theorem ev_callB {x : Str} {np pos : Pos} {id : String} {e : Expr} {rest : List Expr} {Vs : List VP} {V : VP} (hf : Ev prog w A env G (.Name x np) (VEq (.builtin id))) (ha : ArgsEv prog w A env G pos (e :: rest) Vs)
    (hop : ∀ vs (s : Shared) av, Off av s.heap → G.P av s.heap → Items av s.heap vs Vs → Op prog w A (call (.builtin id) vs) s (V.P av))
    (he : starEach (e :: rest) env = (false, eval e env) :: starEach rest env := by kernel_rfl!) (hplain : (backTo pos (starEach rest env)).any (·.1) = false := by kernel_rfl!) :
    Ev prog w A env G (.Call (.Name x np) (e :: rest) [] pos) V := fun s av ho hg E Q hq =>
  Call_ (hf s av ho hg E _ fun f s₁ hf' k₁ => by
    obtain rfl : f = .builtin id := hf'
    exact callWith_builtin1 (ha s₁ av (ho.up k₁.kp) (G.up hg k₁.kp) E _ fun vs s₂ hvs k₂ => hop vs s₂ av (ho.up (k₁.trans k₂).kp) (G.up hg (k₁.trans k₂).kp) hvs E Q fun y s₃ hy k₃ => hq _ _ hy ((k₁.trans k₂).trans k₃)) he hplain)

/-- a type by its name -/
theorem ev_callT {x : Str} {np pos : Pos} {T : String} {e : Expr} {rest : List Expr} {Vs : List VP} {V : VP} (hf : Ev prog w A env G (.Name x np) (VEq (.type T))) (ha : ArgsEv prog w A env G pos (e :: rest) Vs)
    (hop : ∀ vs (s : Shared) av, Off av s.heap → G.P av s.heap → Items av s.heap vs Vs → Op prog w A (call (.type T) vs) s (V.P av))
    (he : starEach (e :: rest) env = (false, eval e env) :: starEach rest env := by kernel_rfl!) (hplain : (backTo pos (starEach rest env)).any (·.1) = false := by kernel_rfl!) :
    Ev prog w A env G (.Call (.Name x np) (e :: rest) [] pos) V := fun s av ho hg E Q hq =>
  Call_ (hf s av ho hg E _ fun f s₁ hf' k₁ => by
    obtain rfl : f = .type T := hf'
    exact PyProof.Rows.callWith_type1 (ha s₁ av (ho.up k₁.kp) (G.up hg k₁.kp) E _ fun vs s₂ hvs k₂ => hop vs s₂ av (ho.up (k₁.trans k₂).kp) (G.up hg (k₁.trans k₂).kp) hvs E Q fun y s₃ hy k₃ => hq _ _ hy ((k₁.trans k₂).trans k₃)) he hplain)

/-- a list display -/
theorem ev_list {elts : List Expr} {pos : Pos} {Vs : List VP} (ha : ArgsEv prog w A env G pos elts Vs) (hsz : Vs.length ≤ sizeLine := by size_fits) : Ev prog w A env G (.List elts pos) (VList Vs) :=
  fun s av ho hg E Q hq => List_ (ha s av ho hg E _ fun vs s₁ hvs k₁ => wpAny_newObj_type (hq _ _ ⟨s₁.heap.objs.size, vs, rfl, (ho.up k₁.kp).new, ⟨_, Heap.get?_push_size _ rfl, rfl, 0, rfl⟩, hvs.up (Kps.push _ s₁.toks).sqk⟩ (k₁.trans (Kps.push _ _)))
    (by show vs.toArray.size ≤ sizeLine; rw [List.size_toArray, hvs.length]; exact hsz))
theorem ev_tuple {elts : List Expr} {k : Nat} {pos : Pos} {Vs : List VP} (ha : ArgsEv prog w A env G pos elts Vs) (hsz : Vs.length ≤ sizeLine := by size_fits) : Ev prog w A env G (.Tuple elts k pos) (VTup Vs) :=
  fun s av ho hg E Q hq => Tuple_ (ha s av ho hg E _ fun vs s₁ hvs k₁ => wpAny_newObj_type (hq _ _ ⟨s₁.heap.objs.size, vs, rfl, (ho.up k₁.kp).new, ⟨_, Heap.get?_push_size _ rfl, rfl, 0, rfl⟩, hvs.up (Kps.push _ s₁.toks).sqk⟩ (k₁.trans (Kps.push _ _)))
    (by show vs.toArray.size ≤ sizeLine; rw [List.size_toArray, hvs.length]; exact hsz))

/-- x[i] -/
theorem ev_sub {value slice : Expr} {pos : Pos} {V₁ V₂ V : VP} (h₁ : Ev prog w A env G value V₁) (h₂ : Ev prog w A env G slice V₂)
    (hop : ∀ a b (s : Shared) av, Off av s.heap → G.P av s.heap → V₁.P av s.heap a → V₂.P av s.heap b → Op prog w A (subscriptTail value slice a b) s (V.P av)) :
    Ev prog w A env G (.Subscript value slice pos) V := fun s av ho hg E Q hq =>
  Subscript_ (h₁ s av ho hg E _ fun a s₁ ha k₁ => h₂ s₁ av (ho.up k₁.kp) (G.up hg k₁.kp) E _ fun b s₂ hb k₂ =>
    hop a b s₂ av (ho.up (k₁.trans k₂).kp) (G.up hg (k₁.trans k₂).kp) (V₁.up ha k₂.sqk) hb E Q fun y s₃ hy k₃ => hq y s₃ hy ((k₁.trans k₂).trans k₃))

/-- if, as an expression -/
theorem ev_ifexp {t a b : Expr} {pos : Pos} {c : Bool} {V : VP} (ht : Tst prog w A env G t c) (ha : c = true → Ev prog w A env G a V) (hb : c = false → Ev prog w A env G b V) : Ev prog w A env G (.IfExp t a b pos) V :=
  fun s av ho hg E Q hq => by
    refine wpAny_IfExp (ht s av ho hg E _ fun r s₁ hr k₁ => ?_)
    subst hr
    cases r with
    | true => exact ha rfl s₁ av (ho.up k₁.kp) (G.up hg k₁.kp) E Q fun y s₂ hy k₂ => hq _ _ hy (k₁.trans k₂)
    | false => exact hb rfl s₁ av (ho.up k₁.kp) (G.up hg k₁.kp) E Q fun y s₂ hy k₂ => hq _ _ hy (k₁.trans k₂)
end

section
variable {prog : Program} {w : World} {A : Around} {s : Shared} {av : Addr → Prop}
-- ints
theorem op_addI {a b : Int} {x y : Value} (hx : (VInt a).P av s.heap x) (hy : (VInt b).P av s.heap y) : Op prog w A (binaryOp .Add x y) s ((VInt (a + b)).P av) := by
  obtain ⟨t, rfl⟩ := hx; obtain ⟨u, rfl⟩ := hy
  exact fun E Q hq => PyProof.Rows.add_int (hq _ _ ⟨_, rfl⟩ (Kps.tok _))
theorem op_subI {a b : Int} {x y : Value} (hx : (VInt a).P av s.heap x) (hy : (VInt b).P av s.heap y) : Op prog w A (binaryOp .Sub x y) s ((VInt (a - b)).P av) := by
  obtain ⟨t, rfl⟩ := hx; obtain ⟨u, rfl⟩ := hy
  exact fun E Q hq => PyProof.Rows.sub_int (hq _ _ ⟨_, rfl⟩ (Kps.tok _))
theorem op_modI {a b : Int} {x y : Value} (hb : b ≠ 0) (hx : (VInt a).P av s.heap x) (hy : (VInt b).P av s.heap y) : Op prog w A (binaryOp .Mod x y) s ((VInt (a.fmod b)).P av) := by
  obtain ⟨t, rfl⟩ := hx; obtain ⟨u, rfl⟩ := hy
  exact fun E Q hq => PyProof.Rows.mod_int hb (hq _ _ ⟨_, rfl⟩ (Kps.tok _))
theorem op_divI {a b : Int} {x y : Value} (hb : b ≠ 0) (hp : Builtin.divisionGoesByPylong a b = false) (hx : (VInt a).P av s.heap x) (hy : (VInt b).P av s.heap y) : Op prog w A (binaryOp .FloorDiv x y) s ((VInt (a.fdiv b)).P av) := by
  obtain ⟨t, rfl⟩ := hx; obtain ⟨u, rfl⟩ := hy
  exact fun E Q hq => floordiv_int hb (hq _ _ ⟨_, rfl⟩ (Kps.tok _)) (.inl hp)
theorem op_mulI {a b : Int} {x y : Value} (hm : IntMulOk a b) (hx : (VInt a).P av s.heap x) (hy : (VInt b).P av s.heap y) : Op prog w A (binaryOp .Mult x y) s ((VInt (a * b)).P av) := by
  obtain ⟨t, rfl⟩ := hx; obtain ⟨u, rfl⟩ := hy
  exact fun E Q hq => mul_int (hm := hm) (hq _ _ ⟨_, rfl⟩ (Kps.tok _))
theorem op_eqI {a b : Int} {x y : Value} (hx : (VInt a).P av s.heap x) (hy : (VInt b).P av s.heap y) : Op prog w A (compareOp .Eq x y) s ((VBool (a == b)).P av) := by
  obtain ⟨t, rfl⟩ := hx; obtain ⟨u, rfl⟩ := hy
  exact fun E Q hq => PyProof.Rows.eq_int (hq _ _ rfl (Kps.refl _))
theorem op_neI {a b : Int} {x y : Value} (hx : (VInt a).P av s.heap x) (hy : (VInt b).P av s.heap y) : Op prog w A (compareOp .NotEq x y) s ((VBool (a != b)).P av) := by
  obtain ⟨t, rfl⟩ := hx; obtain ⟨u, rfl⟩ := hy
  exact fun E Q hq => PyProof.Rows.ne_int (hq _ _ rfl (Kps.refl _))
theorem op_gtI {a b : Int} {x y : Value} (hx : (VInt a).P av s.heap x) (hy : (VInt b).P av s.heap y) : Op prog w A (compareOp .Gt x y) s ((VBool (decide (b < a))).P av) := by
  obtain ⟨t, rfl⟩ := hx; obtain ⟨u, rfl⟩ := hy
  exact fun E Q hq => PyProof.Rows.gt_int (hq _ _ rfl (Kps.refl _))
theorem op_geI {a b : Int} {x y : Value} (hx : (VInt a).P av s.heap x) (hy : (VInt b).P av s.heap y) : Op prog w A (compareOp .GtE x y) s ((VBool (decide (b ≤ a))).P av) := by
  obtain ⟨t, rfl⟩ := hx; obtain ⟨u, rfl⟩ := hy
  exact fun E Q hq => PyProof.Rows.ge_int (hq _ _ rfl (Kps.refl _))
-- texts
theorem op_addS {a b : Str} {x y : Value} (hsz : a.length + b.length ≤ sizeLine) (hx : (VStr a).P av s.heap x) (hy : (VStr b).P av s.heap y) : Op prog w A (binaryOp .Add x y) s ((VStr (a ++ b)).P av) := by
  obtain ⟨t, rfl⟩ := hx; obtain ⟨u, rfl⟩ := hy
  exact fun E Q hq => SB.add (hsz := hsz) fun t' k => hq _ _ ⟨_, rfl⟩ (Kps.tok _)
theorem op_iaddS {a b : Str} {x y : Value} (hsz : a.length + b.length ≤ sizeLine) (hx : (VStr a).P av s.heap x) (hy : (VStr b).P av s.heap y) : Op prog w A (inplaceOp .Add x y) s ((VStr (a ++ b)).P av) := by
  obtain ⟨t, rfl⟩ := hx; obtain ⟨u, rfl⟩ := hy
  exact fun E Q hq => SB.iadd (hsz := hsz) fun t' k => hq _ _ ⟨_, rfl⟩ (Kps.tok _)
theorem op_eqS {a b : Str} {x y : Value} (hx : (VStr a).P av s.heap x) (hy : (VStr b).P av s.heap y) : Op prog w A (compareOp .Eq x y) s ((VBool (a.cps.toList == b.cps.toList)).P av) := by
  obtain ⟨t, rfl⟩ := hx; obtain ⟨u, rfl⟩ := hy
  exact fun E Q hq => P.eq_str (hq _ _ rfl (Kps.refl _))
theorem op_neS {a b : Str} {x y : Value} (hx : (VStr a).P av s.heap x) (hy : (VStr b).P av s.heap y) : Op prog w A (compareOp .NotEq x y) s ((VBool (a.cps.toList != b.cps.toList)).P av) := by
  obtain ⟨t, rfl⟩ := hx; obtain ⟨u, rfl⟩ := hy
  exact fun E Q hq => P.ne_str (hq _ _ rfl (Kps.refl _))
theorem op_ltS {a b : Str} {x y : Value} (hx : (VStr a).P av s.heap x) (hy : (VStr b).P av s.heap y) : Op prog w A (compareOp .Lt x y) s ((VBool (a.cps.toList < b.cps.toList)).P av) := by
  obtain ⟨t, rfl⟩ := hx; obtain ⟨u, rfl⟩ := hy
  exact fun E Q hq => P.lt_str (hq _ _ rfl (Kps.refl _))
theorem op_lenS {a : Str} {vs : List Value} (hfit : ¬ (a.length : Int) ≥ 2 ^ 63) (hx : Items av s.heap vs [VStr a]) : Op prog w A (call (.builtin "len") vs) s ((VInt a.length).P av) := by
  cases hx with | cons hx r => cases r with | nil =>
  obtain ⟨t, rfl⟩ := hx
  exact fun E Q hq => P.len_str hfit (hq _ _ ⟨_, rfl⟩ (Kps.tok _))
theorem op_lenL {Vs : List VP} {vs : List Value} (hfit : (Vs.length : Int) < 2 ^ 63) (hx : Items av s.heap vs [VList Vs]) : Op prog w A (call (.builtin "len") vs) s ((VInt Vs.length).P av) := by
  cases hx with | cons hx r => cases r with | nil =>
  obtain ⟨a, us, rfl, _, hl, hi⟩ := hx
  have e : us.toArray.size = Vs.length := by rw [List.size_toArray]; exact hi.length
  exact fun E Q hq => call_len_list hl (by rw [e]; exact hfit) (hq _ _ ⟨_, by rw [e]⟩ (Kps.tok _))
end
end Mine

end
section
namespace Mine

/-- the lists that may change: none is the frame's own object, a cell or an elder one -/
structure MdOk (env : Env) (h₀ : Heap) (md : Addr → Prop) : Prop where
  loc : ∀ b, md b → b ≠ env.locals
  cell : ∀ b n, md b → env.cells.lookup n ≠ some b
  new : ∀ b, md b → h₀.get? b = none
theorem mdOk_none {env : Env} {h₀ : Heap} : MdOk env h₀ (fun _ => False) := ⟨fun _ h => h.elim, fun _ _ h => h.elim, fun _ h => h.elim⟩
/-- the frame's cells are its own -/
structure CelOk (env : Env) (h₀ : Heap) : Prop where
  apart : ∀ n n' c, env.cells.lookup n = some c → env.cells.lookup n' = some c → n = n'
  new : ∀ n c, env.cells.lookup n = some c → h₀.get? c = none
  loc : ∀ n c, env.cells.lookup n = some c → c ≠ env.locals

/-- what statements may turn: the frame's names and cells, and the lists md -/
def Mv (env : Env) (md : Addr → Prop) (s s' : Shared) : Prop :=
  ∃ h' tk, s' = { s with heap := h', toks := tk } ∧ ∀ b o, b ≠ env.locals → (∀ n, env.cells.lookup n ≠ some b) → ¬ md b → s.heap.get? b = some o → h'.get? b = some o
theorem Mv.refl {env : Env} {md : Addr → Prop} (s : Shared) : Mv env md s s := ⟨s.heap, s.toks, rfl, fun _ _ _ _ _ e => e⟩
theorem Mv.trans {env : Env} {md : Addr → Prop} {s s' s'' : Shared} (h : Mv env md s s') (h' : Mv env md s' s'') : Mv env md s s'' := by
  obtain ⟨h1, t1, rfl, k1⟩ := h
  obtain ⟨h2, t2, rfl, k2⟩ := h'
  exact ⟨h2, t2, rfl, fun b o a1 a2 a3 e => k2 b o a1 a2 a3 (k1 b o a1 a2 a3 e)⟩
theorem Kps.mv {env : Env} {md : Addr → Prop} {s s' : Shared} (h : Kps s s') : Mv env md s s' := by
  obtain ⟨h1, t1, rfl, k1⟩ := h
  exact ⟨h1, t1, rfl, fun b o _ _ _ e => k1 b o e⟩

section
variable {prog : Program} {w : World} {A : Around} {env : Env} {h₀ : Heap} {md : Addr → Prop} {av : Addr → Prop} {s : Shared} {ρ : Locs}

/-- a name is bound anew -/
theorem store {x : Str} {V : VP} {v : Value} {E : Value → Shared → Prop} {Q : Unit → Shared → Prop} {X : Heap → Prop} (hk : env.scope.kind = .function) (C : CelOk env h₀) (M : MdOk env h₀ md) (hX : OnMd md X)
    (hx : env.kindOf x = some .local ∨ (env.kindOf x = some .cell ∧ ∃ c, env.cells.lookup x = some c))
    (ho : Off av s.heap) (hF : FrameIs env h₀ ρ av s.heap) (hXs : X s.heap) (hv : V.P av s.heap v)
    (hq : ∀ s', FrameIs env h₀ ((x, V) :: ρ) av s'.heap → X s'.heap → Off av s'.heap → Mv env md s s' → Q () s') : wpAny (model prog w) A (storeName env x v) Q E s := by
  obtain ⟨m, F, Vs, Cs⟩ := hF
  obtain ⟨oL, esL, epL, hoL, hdL, _⟩ := id F.ns
  rcases hx with hl | ⟨hl, c, hc⟩
  · refine wpAny_storeName_local hl F.ns (fun h' hn hs => ?_) (by rw [hk]; rfl)
    have sq : SqK av s.heap h' := fun b o _ ⟨xs, n, hd⟩ e => hs.extBut b o (by rintro rfl; rw [hoL] at e; cases e; rw [hdL] at hd; cases hd) e
    have hcl : ∀ c v, s.heap.IsCell c v → h'.IsCell c v := fun c v ⟨o, e, hd⟩ => ⟨o, hs.extBut c o (by rintro rfl; rw [hoL] at e; cases e; rw [hdL] at hd; cases hd) e, hd⟩
    refine hq { s with heap := h', toks := s.toks + 1 } ⟨_, F.set hn hs, fun y W hy => ?_, fun n c hc => ?_⟩ (hX _ _ hXs fun b o hb e => hs.extBut b o (M.loc b hb) e) (fun b hb => ?_) ⟨h', s.toks + 1, rfl, fun b o hb _ _ e => hs.extBut b o hb e⟩
    · by_cases hyx : y = x
      · subst hyx
        rw [List.lookup_cons_self] at hy
        obtain rfl := Option.some.inj hy
        exact ⟨v, V.up hv sq, .inl ⟨hl, by simp⟩⟩
      · rw [List.lookup_cons, show (y == x) = false by simpa using hyx] at hy
        obtain ⟨u, hu, h1⟩ := Vs y W hy
        refine ⟨u, W.up hu sq, ?_⟩
        rcases h1 with ⟨a1, a2⟩ | ⟨a1, c, a2, a3⟩
        · exact .inl ⟨a1, by simp [hyx, a2]⟩
        · exact .inr ⟨a1, c, a2, hcl _ _ a3⟩
    · obtain ⟨u, hu⟩ := Cs n c hc
      exact ⟨u, hcl _ _ hu⟩
    · obtain ⟨o, e⟩ := ho b hb
      by_cases hbL : b = env.locals
      · subst hbL; obtain ⟨o', _, _, e', _⟩ := hn; exact ⟨o', e'⟩
      · exact ⟨o, hs.extBut b o hbL e⟩
  · obtain ⟨v₀, hcv⟩ := Cs x c hc
    obtain ⟨oc, hoc, hdc⟩ := id hcv
    refine wpAny_storeName_cell hk hl hc hcv fun h' hn hs => ?_
    have sq : SqK av s.heap h' := fun b o _ ⟨xs, n, hd⟩ e => hs.extBut b o (by rintro rfl; rw [hoc] at e; cases e; rw [hdc] at hd; cases hd) e
    have hne : c ≠ env.locals := C.loc x c hc
    refine hq { s with heap := h' } ⟨m, ⟨F.ns.sameBut hs (Ne.symm hne), fun b o e => hs.extBut b o (by rintro rfl; rw [C.new x b hc] at e; cases e) (F.keep b o e), F.above⟩, fun y W hy => ?_, fun n c' hc' => ?_⟩
      (hX _ _ hXs fun b o hb e => hs.extBut b o (by rintro rfl; exact M.cell b x hb hc) e) (fun b hb => ?_) ⟨h', s.toks, rfl, fun b o _ hb _ e => hs.extBut b o (by rintro rfl; exact hb x hc) e⟩
    · by_cases hyx : y = x
      · subst hyx
        rw [List.lookup_cons_self] at hy
        obtain rfl := Option.some.inj hy
        exact ⟨v, V.up hv sq, .inr ⟨.inl hl, c, hc, hn⟩⟩
      · rw [List.lookup_cons, show (y == x) = false by simpa using hyx] at hy
        obtain ⟨u, hu, h1⟩ := Vs y W hy
        refine ⟨u, W.up hu sq, ?_⟩
        rcases h1 with h1 | ⟨a1, c', a2, a3⟩
        · exact .inl h1
        · exact .inr ⟨a1, c', a2, a3.sameBut hs (by rintro rfl; exact hyx (C.apart _ _ _ a2 hc))⟩
    · by_cases hcc : c' = c
      · subst hcc; exact ⟨_, hn⟩
      · obtain ⟨u, hu⟩ := Cs n c' hc'; exact ⟨u, hu.sameBut hs hcc⟩
    · obtain ⟨o, e⟩ := ho b hb
      by_cases hbc : b = c
      · subst hbc; obtain ⟨o', e', _⟩ := hn; exact ⟨o', e'⟩
      · exact ⟨o, hs.extBut b o hbc e⟩
end

/-- the statements take ρ, X to ρ', X' and go on -/
def HT (prog : Program) (w : World) (A : Around) (env : Env) (h₀ : Heap) (md : Addr → Prop) (ρ : Locs) (X : Heap → Prop) (t : Sem Flow) (ρ' : Locs) (X' : Heap → Prop) : Prop :=
  ∀ (s : Shared) (av : Addr → Prop), (∀ b, md b → av b) → Off av s.heap → FrameIs env h₀ ρ av s.heap → X s.heap → ∀ (E : Value → Shared → Prop) (Q : Flow → Shared → Prop),
    (∀ s', FrameIs env h₀ ρ' av s'.heap → X' s'.heap → Off av s'.heap → Mv env md s s' → Q .next s') → wpAny (model prog w) A t Q E s

/-- what does not change in a frame that stores -/
structure Fx (env : Env) (h₀ : Heap) (md : Addr → Prop) : Prop where
  kind : env.scope.kind = .function
  cel : CelOk env h₀
  mdo : MdOk env h₀ md

section
variable {prog : Program} {w : World} {A : Around} {env : Env} {h₀ : Heap} {md : Addr → Prop} {ρ ρ₁ ρ₂ : Locs} {X X₁ X₂ : Heap → Prop}

theorem ht_nil : HT prog w A env h₀ md ρ X (execs [] env) ρ X := fun s av _ ho hF hX E Q hq => wpAny_execs_nil (hq s hF hX ho (Mv.refl s))
theorem ht_cons {st : Stmt} {rest : List Stmt} (h₁ : HT prog w A env h₀ md ρ X (exec st env) ρ₁ X₁) (h₂ : HT prog w A env h₀ md ρ₁ X₁ (execs rest env) ρ₂ X₂) : HT prog w A env h₀ md ρ X (execs (st :: rest) env) ρ₂ X₂ :=
  fun s av hm ho hF hX E Q hq => wpAny_execs_cons (h₁ s av hm ho hF hX E _ fun s' hF' hX' ho' k => h₂ s' av hm ho' hF' hX' E Q fun s'' hF'' hX'' ho'' k' => hq s'' hF'' hX'' ho'' (k.trans k'))
theorem ht_sub {t : Sem Flow} (h : HT prog w A env h₀ md ρ X t ρ₁ X₁) (hs : ∀ p ∈ ρ₂, ρ₁.lookup p.1 = some p.2) : HT prog w A env h₀ md ρ X t ρ₂ X₁ :=
  fun s av hm ho hF hX E Q hq => h s av hm ho hF hX E Q fun s' hF' hX' ho' k => hq s' (hF'.sub hs) hX' ho' k
theorem ht_pre {t : Sem Flow} (h : HT prog w A env h₀ md ρ₂ X t ρ₁ X₁) (hs : ∀ p ∈ ρ₂, ρ.lookup p.1 = some p.2) : HT prog w A env h₀ md ρ X t ρ₁ X₁ :=
  fun s av hm ho hF hX E Q hq => h s av hm ho (hF.sub hs) hX E Q hq

theorem ht_assign {x : Str} {px pos : Pos} {e : Expr} {V : VP} (f : Fx env h₀ md) (hX : OnMd md X) (he : Ev prog w A env (frHP env h₀ ρ md X hX) e V)
    (hx : env.kindOf x = some .local ∨ (env.kindOf x = some .cell ∧ ∃ c, env.cells.lookup x = some c))
    (hs : swapsWith e (some (.Name x px)) pos.line env = pure false := by kernel_rfl!) : HT prog w A env h₀ md ρ X (exec (.Assign [.Name x px] e pos) env) ((x, V) :: ρ) X :=
  fun s av hm ho hF hXs E Q hq => wpAny_Assign_Name (he s av ho ⟨hF, hXs, hm⟩ E _ fun v s₁ hv k₁ =>
    store f.kind f.cel f.mdo hX hx (ho.up k₁.kp) (hF.up k₁.kp) (hX.kp _ _ hXs k₁.kp) hv fun s₂ hF₂ hX₂ ho₂ k₂ => hq s₂ hF₂ hX₂ ho₂ (k₁.mv.trans k₂)) hs

theorem ht_aug {x : Str} {px pos : Pos} {op : Operator} {e : Expr} {V₀ V₁ V : VP} (f : Fx env h₀ md) (hX : OnMd md X) (h0 : ρ.lookup x = some V₀) (he : Ev prog w A env (frHP env h₀ ρ md X hX) e V₁)
    (hx : env.kindOf x = some .local ∨ (env.kindOf x = some .cell ∧ ∃ c, env.cells.lookup x = some c))
    (hop : ∀ a b (s : Shared) av, Off av s.heap → V₀.P av s.heap a → V₁.P av s.heap b → Op prog w A (inplaceOp op a b) s (V.P av)) :
    HT prog w A env h₀ md ρ X (exec (.AugAssign (.Name x px) op e pos) env) ((x, V) :: ρ) X :=
  fun s av hm ho hF hXs E Q hq => wpAny_AugAssign_Name (loadVar (hX := hX) f.kind h0 s av ho ⟨hF, hXs, hm⟩ E _ fun a s₁ ha k₁ => he s₁ av (ho.up k₁.kp) ⟨hF.up k₁.kp, hX.kp _ _ hXs k₁.kp, hm⟩ E _ fun b s₂ hb k₂ =>
    hop a b s₂ av (ho.up (k₁.trans k₂).kp) (V₀.up ha k₂.sqk) hb E _ fun y s₃ hy k₃ => by
      have k := (k₁.trans k₂).trans k₃
      exact store f.kind f.cel f.mdo hX hx (ho.up k.kp) (hF.up k.kp) (hX.kp _ _ hXs k.kp) hy fun s₄ hF₄ hX₄ ho₄ k₄ => hq s₄ hF₄ hX₄ ho₄ (k.mv.trans k₄))

theorem ht_if {t : Expr} {body orelse : List Stmt} {pos : Pos} {c : Bool} (hX : OnMd md X) (ht : Tst prog w A env (frHP env h₀ ρ md X hX) t c)
    (h1 : c = true → HT prog w A env h₀ md ρ X (execs body env) ρ₁ X₁) (h2 : c = false → HT prog w A env h₀ md ρ X (execs orelse env) ρ₁ X₁) :
    HT prog w A env h₀ md ρ X (exec (.If t body orelse pos) env) ρ₁ X₁ :=
  fun s av hm ho hF hXs E Q hq => wpAny_If (ht s av ho ⟨hF, hXs, hm⟩ E _ fun b s₁ hb k₁ => by
    subst hb
    cases b with
    | true => exact h1 rfl s₁ av hm (ho.up k₁.kp) (hF.up k₁.kp) (hX.kp _ _ hXs k₁.kp) E Q fun s₂ hF₂ hX₂ ho₂ k₂ => hq s₂ hF₂ hX₂ ho₂ (k₁.mv.trans k₂)
    | false => exact h2 rfl s₁ av hm (ho.up k₁.kp) (hF.up k₁.kp) (hX.kp _ _ hXs k₁.kp) E Q fun s₂ hF₂ hX₂ ho₂ k₂ => hq s₂ hF₂ hX₂ ho₂ (k₁.mv.trans k₂))
end
end Mine

end
section
namespace Mine

theorem FrameIs.step {env : Env} {h₀ : Heap} {ρ : Locs} {av : Addr → Prop} {h h' : Heap} {I : Addr} (hF : FrameIs env h₀ ρ av h) (hk : ∀ b o, b ≠ I → h.get? b = some o → h'.get? b = some o) (hI : av I) (hL : I ≠ env.locals)
    (hc : ∀ n, env.cells.lookup n ≠ some I) (h0 : h₀.get? I = none) : FrameIs env h₀ ρ av h' := by
  obtain ⟨m, F, V, C⟩ := hF
  refine ⟨m, ⟨F.ns.at' fun o e => hk _ o (Ne.symm hL) e, fun b o e => hk b o (by rintro rfl; rw [h0] at e; cases e) (F.keep b o e), F.above⟩, fun y W hy => ?_, fun n c hc' => ?_⟩
  · obtain ⟨v, hv, h1⟩ := V y W hy
    refine ⟨v, W.up hv (fun b o hb _ e => hk b o (by rintro rfl; exact hb hI) e), ?_⟩
    rcases h1 with h1 | ⟨a1, c, a2, o, a3, a4⟩
    · exact .inl h1
    · exact .inr ⟨a1, c, a2, o, hk c o (by rintro rfl; exact hc y a2) a3, a4⟩
  · obtain ⟨v, o, a3, a4⟩ := C n c hc'
    exact ⟨v, o, hk c o (by rintro rfl; exact hc n hc') a3, a4⟩

/-- iter is evaluated and opened: Vs are what it hands out -/
def EvIt (prog : Program) (w : World) (A : Around) (env : Env) (G : HP) (iter : Expr) (Vs : List VP) : Prop :=
  ∀ (s : Shared) (av : Addr → Prop), Off av s.heap → G.P av s.heap → ∀ (E : Value → Shared → Prop) (Q : Value → Shared → Prop),
    (∀ (I : Addr) (s' : Shared) (fp : List Addr) (P : Nat → Value → Prop) (St : Nat → Heap → Prop), Kps s s' → s.heap.get? I = none → (∀ i h, St i h → ∃ o, h.get? I = some o) → Walks prog w A I fp [I] Vs.length P St → St 0 s'.heap →
      (∀ b ∈ fp, b < s'.heap.objs.size) → (∀ b ∈ fp, b = I ∨ ((∃ o, s'.heap.get? b = some o ∧ ∃ xs n, o.data = .seq xs n) ∧ ¬ av b)) → (∀ i v, i < Vs.length → P i v → ∃ V, Vs[i]? = some V ∧ V.P (fun b => av b ∨ b = I) s'.heap v) → Q (.ref I) s') →
    wpAny (model prog w) A (eval iter env) (fun xv s₁ => wpAny (model prog w) A (pyIter xv) Q E s₁) E s

section
variable {prog : Program} {w : World} {A : Around} {env : Env} {G : HP}

theorem get_of_lt {α : Type} {l : List α} {i : Nat} (h : i < l.length) : ∃ a, l[i]? = some a := ⟨l[i], by simp [h]⟩
theorem grow_new {av : Addr → Prop} {h : Heap} {I : Addr} (hI : h.get? I = none) : ∀ b, (av b ∨ b = I) → av b ∨ h.get? b = none := fun b hb => hb.imp id fun e => by rw [e]; exact hI
theorem new_none (h : Heap) : h.get? h.objs.size = none := by
  cases e : h.get? h.objs.size with
  | none => rfl
  | some o => exact absurd (Heap.lt_size e) (Nat.lt_irrefl _)

theorem it_list {iter : Expr} {Vs : List VP} (hh : A.handled = none) (h : Ev prog w A env G iter (VList Vs)) : EvIt prog w A env G iter Vs := by
  intro s av ho hg E Q hq
  refine h s av ho hg E _ fun xv s₁ hv k₁ => ?_
  obtain ⟨a, vs, rfl, hav, hl, hi⟩ := hv
  refine wpAny_pyIter_list hl ?_
  have hlt : a < s₁.heap.objs.size := by obtain ⟨o, e, _⟩ := id hl; exact Heap.lt_size e
  have hlen : vs.toArray.size = Vs.length := by rw [List.size_toArray]; exact hi.length
  have W := Walks.list (prog := prog) (w := w) hh s₁.heap.objs.size a (Nat.ne_of_lt hlt) vs.toArray
  rw [hlen] at W
  have hn : s.heap.get? s₁.heap.objs.size = none := by
    cases e : s.heap.get? s₁.heap.objs.size with
    | none => rfl
    | some o => exact absurd (Heap.lt_size (k₁.kp _ _ e)) (Nat.lt_irrefl _)
  refine hq s₁.heap.objs.size _ _ _ _ (k₁.trans (Kps.push _ s₁.toks)) hn (fun _ _ st => let ⟨o, e, _⟩ := st.1; ⟨o, e⟩) W ⟨⟨_, Heap.get?_push_size _ rfl, rfl, rfl⟩, hl.push _⟩ ?_ ?_ ?_
  · intro b hb
    rw [Heap.size_push]
    rcases List.mem_cons.mp hb with rfl | hb
    · exact Nat.lt_succ_self _
    · rw [List.mem_singleton.mp hb]; exact Nat.lt_succ_of_lt hlt
  · intro b hb
    rcases List.mem_cons.mp hb with rfl | hb
    · exact .inl rfl
    · rw [List.mem_singleton.mp hb]
      obtain ⟨o, e, hc, n, hd⟩ := id hl
      exact .inr ⟨⟨o, Heap.get?_push_of_some _ e, _, n, hd⟩, hav⟩
  · intro i v _ hP
    obtain ⟨V, hV, hp⟩ := Paired.get' hi (i := i) (a := v) (by simpa using hP)
    exact ⟨V, hV, V.up (V.grow hp (grow_new (new_none _))) (Kps.push _ s₁.toks).sqk⟩

theorem it_tup {iter : Expr} {Vs : List VP} (hh : A.handled = none) (h : Ev prog w A env G iter (VTup Vs)) : EvIt prog w A env G iter Vs := by
  intro s av ho hg E Q hq
  refine h s av ho hg E _ fun xv s₁ hv k₁ => ?_
  obtain ⟨a, vs, rfl, hav, hl, hi⟩ := hv
  have hl' : s₁.heap.IsTuple a vs.toArray := hl
  refine wpAny_pyIter_tuple hl' ?_
  have hlt : a < s₁.heap.objs.size := by obtain ⟨o, e, _⟩ := id hl; exact Heap.lt_size e
  have hlen : vs.toArray.size = Vs.length := by rw [List.size_toArray]; exact hi.length
  have W := Walks.tuple (prog := prog) (w := w) hh s₁.heap.objs.size a (Nat.ne_of_lt hlt) vs.toArray
  rw [hlen] at W
  have hn : s.heap.get? s₁.heap.objs.size = none := by
    cases e : s.heap.get? s₁.heap.objs.size with
    | none => rfl
    | some o => exact absurd (Heap.lt_size (k₁.kp _ _ e)) (Nat.lt_irrefl _)
  refine hq s₁.heap.objs.size _ _ _ _ (k₁.trans (Kps.push _ s₁.toks)) hn (fun _ _ st => let ⟨o, e, _⟩ := st.1; ⟨o, e⟩) W ⟨⟨_, Heap.get?_push_size _ rfl, rfl, rfl⟩, hl'.at fun o e => Heap.get?_push_of_some _ e⟩ ?_ ?_ ?_
  · intro b hb
    rw [Heap.size_push]
    rcases List.mem_cons.mp hb with rfl | hb
    · exact Nat.lt_succ_self _
    · rw [List.mem_singleton.mp hb]; exact Nat.lt_succ_of_lt hlt
  · intro b hb
    rcases List.mem_cons.mp hb with rfl | hb
    · exact .inl rfl
    · rw [List.mem_singleton.mp hb]
      obtain ⟨o, e, hc, n, hd⟩ := id hl
      exact .inr ⟨⟨o, Heap.get?_push_of_some _ e, _, n, hd⟩, hav⟩
  · intro i v _ hP
    obtain ⟨V, hV, hp⟩ := Paired.get' hi (i := i) (a := v) (by simpa using hP)
    exact ⟨V, hV, V.up (V.grow hp (grow_new (new_none _))) (Kps.push _ s₁.toks).sqk⟩

/-- the letters of a text, as texts -/
def letters (x : Str) : List Str := x.cps.toList.map fun c => ⟨#[c]⟩
theorem it_str {iter : Expr} {x : Str} (hh : A.handled = none) (h : Ev prog w A env G iter (VStr x)) : EvIt prog w A env G iter ((letters x).map VStr) := by
  intro s av ho hg E Q hq
  refine h s av ho hg E _ fun xv s₁ hv k₁ => ?_
  obtain ⟨t, rfl⟩ := hv
  have hn : s.heap.get? s₁.heap.objs.size = none := by
    cases e : s.heap.get? s₁.heap.objs.size with
    | none => rfl
    | some o => exact absurd (Heap.lt_size (k₁.kp _ _ e)) (Nat.lt_irrefl _)
  have hlen : x.cps.size = ((letters x).map VStr).length := by simp [letters]
  have fin : ∀ (o : Obj) (St : Nat → Heap → Prop), (∀ i h, St i h → ∃ o, h.get? s₁.heap.objs.size = some o) → Walks prog w A s₁.heap.objs.size [s₁.heap.objs.size] [s₁.heap.objs.size] x.cps.size (SignAt x) St → St 0 (s₁.heap.push o) → Q (.ref s₁.heap.objs.size) { s₁ with heap := s₁.heap.push o } := by
    intro o St hf W' hst
    rw [hlen] at W'
    refine hq s₁.heap.objs.size { s₁ with heap := s₁.heap.push o } _ _ _ (k₁.trans (Kps.push _ s₁.toks)) hn hf W' hst ?_ ?_ ?_
    · intro b hb
      rw [List.mem_singleton.mp hb]
      show _ < (s₁.heap.push o).objs.size
      rw [Heap.size_push]; exact Nat.lt_succ_self _
    · intro b hb; exact .inl (List.mem_singleton.mp hb)
    · rintro i v _ ⟨c, u, hc, rfl⟩
      refine ⟨VStr ⟨#[c]⟩, ?_, ⟨u, rfl⟩⟩
      simp only [letters, List.getElem?_map]
      rw [show x.cps.toList[i]? = some c by simpa using hc]
      rfl
  cases ha : x.cps.all (· < 128)
  · exact wpAny_pyIter_wide ha (fin _ _ (fun _ _ st => let ⟨o, e, _⟩ := st; ⟨o, e⟩) (Walks.strWide hh _ x t) ⟨_, Heap.get?_push_size _ rfl, rfl, rfl⟩)
  · exact wpAny_pyIter_ascii ha (fin _ _ (fun _ _ st => let ⟨o, e, _⟩ := st; ⟨o, e⟩) (Walks.strAscii hh _ x t) ⟨_, Heap.get?_push_size _ rfl, rfl, rfl⟩)

/-- range(e) -/
theorem it_range {e : Expr} {np pos : Pos} {n : Nat} (hh : A.handled = none) (hf : Ev prog w A env G (.Name "range" np) (VEq (.type "range"))) (h : Ev prog w A env G e (VInt n)) (hn : n < 2 ^ 62)
    (he : starEach [e] env = [(false, eval e env)] := by kernel_rfl!) : EvIt prog w A env G (.Call (.Name "range" np) [e] [] pos) ((List.range n).map fun (i : Nat) => VInt i) := by
  intro s av ho hg E Q hq
  refine Call_ (hf s av ho hg E _ fun f s₀ hf' k₀ => ?_)
  obtain rfl : f = .type "range" := hf'
  refine PyProof.Rows.callWith_type1 (args_cons (h s₀ av (ho.up k₀.kp) (G.up hg k₀.kp) E _ fun v s₁ hv k₁ => args_nil ?_) he) he rfl
  obtain ⟨t, rfl⟩ := hv
  refine call_range_1 (wpAny_pyIter_range (IsRange.new ..) (small_one (by decide) (by decide) (by omega) (by omega)) ?_)
  have hsz : Builtin.Range.rangeSize 0 (n : Int) 1 = (n : Int) := by rw [rangeSize_one]; split <;> omega
  have k := k₀.trans k₁
  have hnI : ∀ I, s₁.heap.objs.size ≤ I → s.heap.get? I = none := fun I hI => by
    cases e : s.heap.get? I with
    | none => rfl
    | some o => exact absurd (Heap.lt_size (k.kp _ _ e)) (Nat.not_lt.mpr hI)
  have W := Walks.range (prog := prog) (w := w) hh (s₁.heap.objs.size + 1) 0 1 n
  have W' : Walks prog w A (s₁.heap.objs.size + 1) [s₁.heap.objs.size + 1] [s₁.heap.objs.size + 1] ((List.range n).map fun (i : Nat) => VInt i).length (fun i v => ∃ t, v = .int (i : Int) t) (fun i h => IsRangeIter h (s₁.heap.objs.size + 1) (i : Int) ((n : Int) - (i : Nat)) 1) := by
    simpa using W
  have hS : (s₁.heap.push { cls := .type "range", data := .fields #[.int 0 (s₁.toks), .int n t, .int 1 (s₁.toks + 1)] }).objs.size = s₁.heap.objs.size + 1 := Heap.size_push ..
  have hI := Heap.get?_push_size (h := s₁.heap.push { cls := .type "range", data := .fields #[.int 0 (s₁.toks), .int n t, .int 1 (s₁.toks + 1)] }) (o := { cls := .type "range_iterator", data := .fields #[rawInt 0, rawInt (Builtin.Range.rangeSize 0 n 1), rawInt 1] }) rfl
  rw [hS] at hI
  show Q (.ref (s₁.heap.push { cls := .type "range", data := .fields #[.int 0 (s₁.toks), .int n t, .int 1 (s₁.toks + 1)] }).objs.size) _
  rw [hS]
  refine hq _ _ [s₁.heap.objs.size + 1] _ _ (k.trans ((Kps.push _ (s₁.toks + 1 + 1)).trans (Kps.push _ (s₁.toks + 1 + 1)))) (hnI _ (Nat.le_succ _)) (fun _ _ st => ⟨_, st⟩) W' ?_ ?_ ?_ ?_
  · have e2 : ((n : Int) - ((0 : Nat) : Int)) = Builtin.Range.rangeSize 0 (n : Int) 1 := by rw [hsz]; simp
    rw [e2]
    exact hI
  · intro b hb; rw [List.mem_singleton.mp hb]; simp [Heap.size_push]
  · intro b hb; exact .inl (List.mem_singleton.mp hb)
  · rintro i v hi ⟨u, rfl⟩
    have hi' : i < n := by simpa using hi
    exact ⟨VInt i, by simp [hi'], ⟨u, rfl⟩⟩
end
end Mine

end
section
namespace Mine

section
variable {prog : Program} {w : World} {A : Around} {env : Env} {h₀ : Heap} {md : Addr → Prop}

theorem FrameIs.locals {ρ : Locs} {av : Addr → Prop} {h : Heap} (hF : FrameIs env h₀ ρ av h) : ∃ o es ep, h.get? env.locals = some o ∧ o.data = .dict es ep := by
  obtain ⟨m, F, _, _⟩ := hF
  obtain ⟨o, es, ep, e, d, _⟩ := F.ns
  exact ⟨o, es, ep, e, d⟩
theorem FrameIs.cellAt {ρ : Locs} {av : Addr → Prop} {h : Heap} (hF : FrameIs env h₀ ρ av h) {n : Str} {c : Addr} (hc : env.cells.lookup n = some c) : ∃ v, h.IsCell c v := by
  obtain ⟨m, _, _, C⟩ := hF; exact C n c hc

/-- a for over anything that is walked -/
theorem ht_for {ρ₀ : Locs} {X₀ : Heap → Prop} {x : Str} {px pos : Pos} {iter : Expr} {body : List Stmt} {Vs : List VP} {hX₀ : OnMd md X₀} (ρ : Nat → Locs) (X : Nat → Heap → Prop) (f : Fx env h₀ md) (hX : ∀ i, OnMd md (X i))
    (hit : EvIt prog w A env (frHP env h₀ ρ₀ md X₀ hX₀) iter Vs) (hρ0 : ∀ p ∈ ρ 0, ρ₀.lookup p.1 = some p.2) (hX0 : ∀ h, X₀ h → X 0 h)
    (hx : env.kindOf x = some .local ∨ (env.kindOf x = some .cell ∧ ∃ c, env.cells.lookup x = some c))
    (hbody : ∀ i V, Vs[i]? = some V → HT prog w A env h₀ md ((x, V) :: ρ i) (X i) (execs body env) (ρ (i + 1)) (X (i + 1)))
    (hs : ∀ x, foldedSetIterable iter env x = pure x := by intro _; kernel_rfl!) :
    HT prog w A env h₀ md ρ₀ X₀ (exec (.For (.Name x px) iter body [] pos) env) (ρ Vs.length) (X Vs.length) := by
  intro s av hm ho hF hXs E Q hq
  refine wpAny_For (hit s av ho ⟨hF, hXs, hm⟩ E _ fun I s' fp P St k hI hIe W hst hfp hfp2 hP => ?_) hs
  obtain ⟨oL, esL, epL, hoL, hdL⟩ := hF.locals
  have hLI : I ≠ env.locals := by rintro rfl; rw [hI] at hoL; cases hoL
  have hcI : ∀ n, env.cells.lookup n ≠ some I := fun n hc => by
    obtain ⟨v, o, e, _⟩ := hF.cellAt hc; rw [hI] at e; cases e
  have h0I : h₀.get? I = none := by
    obtain ⟨m, F, _, _⟩ := hF
    cases e : h₀.get? I with
    | none => rfl
    | some o => have := F.keep _ _ e; rw [hI] at this; cases this
  have hmI : ¬ md I := fun h => by obtain ⟨o, e⟩ := ho I (hm I h); rw [hI] at e; cases e
  have hfpk : ∀ b ∈ fp, b ≠ env.locals ∧ (∀ n, env.cells.lookup n ≠ some b) ∧ ¬ md b := by
    intro b hb
    rcases hfp2 b hb with rfl | ⟨⟨o, e, xs, n, hd⟩, hav⟩
    · exact ⟨hLI, hcI, hmI⟩
    · refine ⟨?_, fun n' hc => ?_, fun h => hav (hm b h)⟩
      · rintro rfl; rw [k.kp _ _ hoL] at e; cases e; rw [hdL] at hd; cases hd
      · obtain ⟨v, o', e', hd'⟩ := hF.cellAt hc
        rw [k.kp _ _ e'] at e; cases e; rw [hd'] at hd; cases hd
  refine codeAny_forLoop (fun j s'' => ∃ i, i ≤ Vs.length ∧ j = Vs.length + 1 - i ∧ St i s''.heap ∧ FrameIs env h₀ (ρ i) (fun b => av b ∨ b = I) s''.heap ∧ X i s''.heap ∧ Off (fun b => av b ∨ b = I) s''.heap ∧ Mv env md s s'' ∧
      (∀ i v, i < Vs.length → P i v → ∃ V, Vs[i]? = some V ∧ V.P (fun b => av b ∨ b = I) s''.heap v)) ?_ (Vs.length + 1)
    ⟨0, Nat.zero_le _, rfl, hst, ((hF.sub hρ0).grow (grow_new hI)).up k.kp, hX 0 |>.kp _ _ (hX0 _ hXs) k.kp, (fun b hb => hb.elim (fun h => ho.up k.kp b h) fun e => by rw [e]; exact hIe _ _ hst), k.mv, hP⟩
  rintro j s₁ ⟨i, hi, rfl, hsti, hFi, hXi, hoi, hmv, hPi⟩
  by_cases hlt : i < Vs.length
  · refine W.item i _ _ _ hlt hsti fun v h₁ tk₁ hPv hst₁ hk₁ => ?_
    have hk₁' : ∀ b o, b ≠ I → s₁.heap.get? b = some o → h₁.get? b = some o := fun b o hb e => hk₁ b o (fun hm => hb (List.mem_singleton.mp hm)) e
    obtain ⟨V, hV, hVv⟩ := hPi i v hlt hPv
    have hF₁ : FrameIs env h₀ (ρ i) (fun b => av b ∨ b = I) h₁ := hFi.step hk₁' (.inr rfl) hLI hcI h0I
    have hX₁ : X i h₁ := hX i _ _ hXi fun b o hb e => hk₁' b o (by rintro rfl; exact hmI hb) e
    have sq : ∀ {W : VP} {u}, W.P (fun b => av b ∨ b = I) s₁.heap u → W.P (fun b => av b ∨ b = I) h₁ u := fun {W u} p => W.up p fun b o hb _ e => hk₁' b o (fun e' => hb (.inr e')) e
    obtain ⟨oI, hoI⟩ := hoi I (.inr rfl)
    have hIt : ∃ o, h₁.get? I = some o := hIe _ _ hst₁
    have ho₁ : Off (fun b => av b ∨ b = I) h₁ := fun b hb => by
      by_cases hbI : b = I
      · rw [hbI]; exact hIt
      · obtain ⟨o, e⟩ := hoi b hb; exact ⟨o, hk₁' b o hbI e⟩
    refine wpAny_assign_Name (store (s := { s₁ with heap := h₁, toks := tk₁ }) f.kind f.cel f.mdo (hX i) hx ho₁ hF₁ hX₁ (sq hVv) fun s₂ hF₂ hX₂ ho₂ mv₂ => ?_)
    refine hbody i V hV s₂ _ (fun b hb => .inl (hm b hb)) ho₂ hF₂ hX₂ _ _ fun s₃ hF₃ hX₃ ho₃ mv₃ => ?_
    obtain ⟨h3, t3, e3, k3⟩ := mv₂.trans mv₃
    subst e3
    have old : ∀ b o, b ≠ I → b ≠ env.locals → (∀ n, env.cells.lookup n ≠ some b) → ¬ md b → s₁.heap.get? b = some o → h3.get? b = some o := fun b o a0 a1 a2 a3 e => k3 b o a1 a2 a3 (hk₁' b o a0 e)
    refine ⟨Vs.length + 1 - (i + 1), by omega, i + 1, hlt, rfl, ?_, hF₃, hX₃, ho₃, ?_, ?_⟩
    · exact W.frame _ _ _ hst₁ fun b hb o e => k3 b o (hfpk b hb).1 (hfpk b hb).2.1 (hfpk b hb).2.2 e
    · obtain ⟨ha, ta, ea, ka⟩ := hmv
      subst ea
      exact ⟨h3, t3, rfl, fun b o a1 a2 a3 e => old b o (by rintro rfl; rw [hI] at e; cases e) a1 a2 a3 (ka b o a1 a2 a3 e)⟩
    · intro i' v' hi' hp'
      obtain ⟨V', hV', hv'⟩ := hPi i' v' hi' hp'
      refine ⟨V', hV', V'.up hv' fun b o hb ⟨xs, n, hd⟩ e => old b o (fun e' => hb (.inr e')) ?_ ?_ (fun h => hb (.inl (hm b h))) e⟩
      · rintro rfl
        obtain ⟨o', es, ep, e', d'⟩ := hFi.locals
        rw [e'] at e; cases e; rw [d'] at hd; cases hd
      · intro n' hc
        obtain ⟨v'', o', e', d'⟩ := hFi.cellAt hc
        rw [e'] at e; cases e; rw [d'] at hd; cases hd
  · have hin : i = Vs.length := by omega
    subst hin
    refine W.done _ _ _ hsti fun h₁ tk₁ hk₁ => wpAny_execs_nil ?_
    have hk₁' : ∀ b o, b ≠ I → s₁.heap.get? b = some o → h₁.get? b = some o := fun b o hb e => hk₁ b o (fun hm => hb (List.mem_singleton.mp hm)) e
    have hF₁ : FrameIs env h₀ (ρ Vs.length) (fun b => av b ∨ b = I) h₁ := hFi.step hk₁' (.inr rfl) hLI hcI h0I
    refine hq { s₁ with heap := h₁, toks := tk₁ } (hF₁.grow fun b hb => .inl (.inl hb)) (hX _ _ _ hXi fun b o hb e => hk₁' b o (by rintro rfl; exact hmI hb) e) (fun b hb => ?_) ?_
    · obtain ⟨o, e⟩ := hoi b (.inl hb)
      exact ⟨o, hk₁' b o (by rintro rfl; obtain ⟨o', e'⟩ := ho b hb; rw [hI] at e'; cases e') e⟩
    · obtain ⟨ha, ta, ea, ka⟩ := hmv
      subst ea
      exact ⟨h₁, tk₁, rfl, fun b o a1 a2 a3 e => hk₁' b o (by rintro rfl; rw [hI] at e; cases e) (ka b o a1 a2 a3 e)⟩
end
end Mine

end
section
namespace Mine

/-- the turns of a comprehension with one clause and no test, whatever its target -/
theorem compLoop_any {prog : Program} {w : World} {A : Around} {R : Result → Shared → Prop} {s : Shared} {elt target iter : Expr} {scope : Scope} {pos : Pos} {it acc : Value} {env : Env} (I : Nat → Shared → Prop)
    (turn : ∀ n s, I n s → ∀ E : Value → Shared → Prop, wpAny (model prog w) A (pyNext it) (fun r s₁ => match r with
      | none => R (.ok .next) s₁
      | some v => wpAny (model prog w) A (letOwnedTupleGo target it v) (fun _ s₁' => wpAny (model prog w) A (assign target env v) (fun _ s₂ => wpAny (model prog w) A (eval elt env) (fun x s₃ =>
          wpAny (model prog w) A (call (.builtin "list.append") [acc, x]) (fun _ s₄ => ∃ m, m < n ∧ I m s₄) E s₃) E s₂) E s₁') E s₁) E s)
    (n : Nat) (h : I n s) : codeAny (model prog w) A (.compLoop (.ListComp elt [⟨target, iter, [], 0⟩] scope pos) 0 it acc env) R s := by
  refine codeAny_loop rfl I (fun n s hI => ?_) n h
  show wpAny _ _ ((compTurn (.ListComp elt [⟨target, iter, [], 0⟩] scope pos) 0 it acc env).onRaise (fun x => do noteFrame x env; theTreesLotGoes x)) _ _ s
  refine wpAny_noted ?_
  rw [compTurn_list1]
  refine wpAny_bind (wpAny_standAt (wpAny_bind (wpAny_mono (turn n s hI _) (fun r s₁ h₁ => ?_) fun _ _ h' => h')))
  cases r with
  | none => exact wpAny_pure h₁
  | some v =>
    refine wpAny_bind (wpAny_mono h₁ (fun _ s₁' h₁' => ?_) fun _ _ h' => h')
    exact wpAny_bind (wpAny_mono h₁' (fun _ s₂ h₂ => wpAny_bind (wpAny_bind (wpAny_mono h₂ (fun x s₃ h₃ => wpAny_bind (wpAny_mono h₃
      (fun _ s₄ h₄ => wpAny_pure (wpAny_pure ⟨rfl, h₄⟩)) fun _ _ h' => h')) fun _ _ h' => h'))) fun _ _ h' => h')

section
variable {prog : Program} {w : World} {A : Around} {env : Env} {h₀ : Heap}

/-- a local name of a frame is bound: only the frame's own object turns -/
theorem storeLoc {ρ : Locs} {av : Addr → Prop} {s : Shared} {x : Str} {V : VP} {v : Value} {E : Value → Shared → Prop} {Q : Unit → Shared → Prop} (hk : env.scope.kind = .function) (hl : env.kindOf x = some .local)
    (ho : Off av s.heap) (hF : FrameIs env h₀ ρ av s.heap) (hv : V.P av s.heap v)
    (hq : ∀ h', FrameIs env h₀ ((x, V) :: ρ) av h' → Off av h' → (∀ b o, b ≠ env.locals → s.heap.get? b = some o → h'.get? b = some o) → Q () { s with heap := h', toks := s.toks + 1 }) : wpAny (model prog w) A (storeName env x v) Q E s := by
  obtain ⟨m, F, Vs, Cs⟩ := hF
  obtain ⟨oL, esL, epL, hoL, hdL, _⟩ := id F.ns
  refine wpAny_storeName_local hl F.ns (fun h' hn hs => ?_) (by rw [hk]; rfl)
  have sq : SqK av s.heap h' := fun b o _ ⟨xs, n, hd⟩ e => hs.extBut b o (by rintro rfl; rw [hoL] at e; cases e; rw [hdL] at hd; cases hd) e
  have hcl : ∀ c v, s.heap.IsCell c v → h'.IsCell c v := fun c v ⟨o, e, hd⟩ => ⟨o, hs.extBut c o (by rintro rfl; rw [hoL] at e; cases e; rw [hdL] at hd; cases hd) e, hd⟩
  refine hq h' ⟨_, F.set hn hs, fun y W hy => ?_, fun n c hc => ?_⟩ (fun b hb => ?_) fun b o hb e => hs.extBut b o hb e
  · by_cases hyx : y = x
    · subst hyx
      rw [List.lookup_cons_self] at hy
      obtain rfl := Option.some.inj hy
      exact ⟨v, V.up hv sq, .inl ⟨hl, by simp⟩⟩
    · rw [List.lookup_cons, show (y == x) = false by simpa using hyx] at hy
      obtain ⟨u, hu, h1⟩ := Vs y W hy
      refine ⟨u, W.up hu sq, ?_⟩
      rcases h1 with ⟨a1, a2⟩ | ⟨a1, c, a2, a3⟩
      · exact .inl ⟨a1, by simp [hyx, a2]⟩
      · exact .inr ⟨a1, c, a2, hcl _ _ a3⟩
  · obtain ⟨u, hu⟩ := Cs n c hc
    exact ⟨u, hcl _ _ hu⟩
  · obtain ⟨o, e⟩ := ho b hb
    by_cases hbL : b = env.locals
    · subst hbL; obtain ⟨o', _, _, e', _⟩ := hn; exact ⟨o', e'⟩
    · exact ⟨o, hs.extBut b o hbL e⟩

/-- what the target of a clause binds -/
def Binds (prog : Program) (w : World) (A : Around) (cenv : Env) (h₀ : Heap) (target : Expr) (V : VP) (ρc ρt : Locs) : Prop :=
  ∀ (s : Shared) (av : Addr → Prop) (v : Value), Off av s.heap → FrameIs cenv h₀ ρc av s.heap → V.P av s.heap v → ∀ (E : Value → Shared → Prop) (Q : Unit → Shared → Prop),
    (∀ h' tk, FrameIs cenv h₀ ρt av h' → Off av h' → (∀ b o, b ≠ cenv.locals → s.heap.get? b = some o → h'.get? b = some o) → Q () { s with heap := h', toks := tk }) →
    wpAny (model prog w) A (assign target cenv v) Q E s
theorem binds_name {cenv : Env} {x : Str} {px : Pos} {V : VP} {ρc : Locs} (hk : cenv.scope.kind = .function) (hl : cenv.kindOf x = some .local) : Binds prog w A cenv h₀ (.Name x px) V ρc ((x, V) :: ρc) :=
  fun s av v ho hF hv E Q hq => wpAny_assign_Name (storeLoc hk hl ho hF hv fun h' a b c => hq h' _ a b c)

/-- what a comprehension captures -/
structure Caps (env : Env) (scope : Scope) (cl : List (Str × Addr)) (ρ ρc : Locs) : Prop where
  clos : closureFor scope env = pure cl
  cells : ∀ n c, cl.lookup n = some c → env.cells.lookup n = some c
  vars : ∀ p ∈ ρc, ρ.lookup p.1 = some p.2 ∧ env.kindOf p.1 = some .cell ∧ cl.lookup p.1 = env.cells.lookup p.1 ∧ (relabel scope env).names.lookup p.1 = some .cell
  nocell : ∀ y ∈ scope.names, y.2 ≠ .cell
  kind : scope.kind = .function
  names : ∀ y ∈ scope.names, y.2 = .local → scope.names.lookup y.1 = some .local
theorem caps_nil {scope : Scope} {ρ : Locs} (hclos : closureFor scope env = pure []) (nocell : ∀ y ∈ scope.names, y.2 ≠ .cell) (kind : scope.kind = .function)
    (names : ∀ y ∈ scope.names, y.2 = .local → scope.names.lookup y.1 = some .local) : Caps env scope [] ρ [] := ⟨hclos, (fun _ _ h => by simp at h), (fun _ h => by cases h), nocell, kind, names⟩

theorem comp_frame {scope : Scope} {cl : List (Str × Addr)} {ρ ρc : Locs} {av : Addr → Prop} {h h' : Heap} {C : Addr} {m : Str → Option Value} (K : Caps env scope cl ρ ρc) (hF : FrameIs env h₀ ρ av h) (k : ∀ b o, h.get? b = some o → h'.get? b = some o) (hn : h'.Ns C m)
    (hC : h.objs.size ≤ C) : FrameIs (compEnvC scope cl C env) h₀ ρc av h' := by
  obtain ⟨m₀, F, Vs, Cs⟩ := hF
  refine ⟨m, ⟨hn, fun b o e => k b o (F.keep b o e), Nat.le_trans (Nat.le_of_lt (Nat.lt_of_le_of_lt F.above F.ns.lt)) hC⟩, fun y V hy => ?_, fun n c hc => ?_⟩
  · obtain ⟨hρ, hk, hcl, hlab⟩ := K.vars (y, V) (mem_of_lookup hy)
    obtain ⟨v, hv, h1⟩ := Vs y V hρ
    refine ⟨v, V.up hv (Kp.sqk k), .inr ⟨.inl hlab, ?_⟩⟩
    rcases h1 with ⟨a1, _⟩ | ⟨_, c, a2, a3⟩
    · rw [hk] at a1; cases a1
    · exact ⟨c, hcl.trans a2, a3.keeps k⟩
  · obtain ⟨v, hv⟩ := Cs n c (K.cells n c hc)
    exact ⟨v, hv.keeps k⟩

/-- the block of a comprehension, behind its source -/
theorem comp_core {elt target iter : Expr} {scope : Scope} {cl : List (Str × Addr)} {pos : Pos} {s₂ : Shared} {I : Addr} {fp : List Addr} {P : Nat → Value → Prop} {St : Nat → Heap → Prop} {Vs Ws : List VP} {ρ ρc : Locs} {ρt : Nat → Locs}
    {md av : Addr → Prop} {X : Heap → Prop} {RR : Value → Addr → Result → Shared → Prop} {E : Value → Shared → Prop} (hlen : Ws.length = Vs.length) (hsz : Vs.length ≤ sizeLine)
    (K : Caps env scope cl ρ ρc) (hX : OnMd md X) (hm : ∀ b, md b → av b) (ho : Off av s₂.heap) (hF : FrameIs env h₀ ρ av s₂.heap) (hXs : X s₂.heap) (havI : av I) (hmI : ¬ md I) (h0I : h₀.get? I = none) (hcI : ∀ n, env.cells.lookup n ≠ some I)
    (W : Walks prog w A I fp [I] Vs.length P St) (hIe : ∀ i h, St i h → ∃ o, h.get? I = some o) (hst : St 0 s₂.heap) (hfp : ∀ b ∈ fp, b < s₂.heap.objs.size)
    (hP : ∀ i v, i < Vs.length → P i v → ∃ V, Vs[i]? = some V ∧ V.P av s₂.heap v)
    (htgt : ∀ s v, s.heap.get? I ≠ none → ∀ E (Q : Unit → Shared → Prop), (∃ i, St i s.heap) → Q () s → wpAny (model prog w) A (letOwnedTupleGo target (.ref I) v) Q E s)
    (hb : ∀ i V C, Vs[i]? = some V → Binds prog w A (compEnvC scope cl C env) h₀ target V ρc (ρt i))
    (he : ∀ i W' C, Ws[i]? = some W' → Ev prog w A (compEnvC scope cl C env) (frHP (compEnvC scope cl C env) h₀ (ρt i) md X hX) elt W')
    (hRR : ∀ D C h' tk m' ys, s₂.heap.get? D = none → s₂.heap.get? C = none → D ≠ C → h'.Ns C m' → h'.PlainList D ys → Items (fun b => av b ∨ b = D) h' ys.toList Ws → X h' →
      (∀ b o, b ≠ I → s₂.heap.get? b = some o → h'.get? b = some o) → RR (.ref D) C (.ok .next) { s₂ with heap := h', toks := tk }) :
    wpAny (model prog w) A (newList []) (fun acc s₃ => wpAny (model prog w) A (newFunctionEnv scope env.globals cl [] env.qual none .none (some env)) (fun cenv s₄ =>
      codeAny (model prog w) A (.compStart (.ListComp elt [⟨target, iter, [], 0⟩] scope pos) 0 (.ref I) acc { cenv with scope := relabel scope env }) (RR acc cenv.locals) s₄) E s₃) E s₂ := by
  refine wpAny_newObj_type (wpAny_newFunctionEnv K.nocell (by intro y hy; simp at hy) (fun h₁ hns₁ hsb₁ => ?_) K.kind)
  dsimp only at hns₁ hsb₁ ⊢
  generalize hH2 : s₂.heap.push { cls := .type "list", dict := none, data := .seq ([] : List Value).toArray } = H2 at hns₁ hsb₁ ⊢
  have hC : H2.objs.size = s₂.heap.objs.size + 1 := by rw [← hH2, Heap.size_push]
  generalize hCC : H2.objs.size = C at hns₁ hsb₁ hC ⊢
  generalize hDD : s₂.heap.objs.size = D at hC ⊢
  have hDC : D ≠ C := by rw [hC]; exact Nat.ne_of_lt (Nat.lt_succ_self _)
  have below : ∀ b, b < s₂.heap.objs.size → b ≠ C ∧ b ≠ D := fun b hb => ⟨by rw [hC, ← hDD]; exact Nat.ne_of_lt (Nat.lt_succ_of_lt hb), by rw [← hDD]; exact Nat.ne_of_lt hb⟩
  have hDf : D ∉ fp := fun hm => by have := hfp _ hm; rw [hDD] at this; exact Nat.lt_irrefl _ this
  have hCf : C ∉ fp := fun hm => by have := hfp _ hm; rw [hDD, hC] at this; exact Nat.lt_irrefl _ (Nat.lt_of_succ_lt this)
  have old : Kp s₂.heap h₁ := fun b o e => hsb₁.extBut b o (below b (Heap.lt_size e)).1 (Heap.get?_push_of_some _ (hH2 ▸ Heap.get?_push_of_some _ e))
  have hacc : h₁.PlainList D #[] := ⟨_, hsb₁.extBut _ _ hDC (Heap.get?_push_of_some _ (hH2 ▸ hDD ▸ Heap.get?_push_size _ rfl))⟩
  have hst₁ : St 0 h₁ := W.frame _ _ _ hst fun b _ o e => old b o e
  have hDn : s₂.heap.get? D = none := hDD ▸ new_none _
  have hCn : s₂.heap.get? C = none := by
    cases e : s₂.heap.get? C with
    | none => rfl
    | some o' => exact absurd (Heap.lt_size e) (by rw [hDD, hC]; exact Nat.not_lt.mpr (Nat.le_succ _))
  have hDI : D ≠ I := by rintro rfl; obtain ⟨o, e⟩ := hIe _ _ hst; rw [hDn] at e; cases e
  have hCI : C ≠ I := by rintro rfl; obtain ⟨o, e⟩ := hIe _ _ hst; rw [hCn] at e; cases e
  have hmD : ¬ md D := fun h => by obtain ⟨o, e⟩ := ho D (hm D h); rw [hDn] at e; cases e
  have hmC : ¬ md C := fun h => by obtain ⟨o, e⟩ := ho C (hm C h); rw [hCn] at e; cases e
  have hh : ∀ a, s₂.heap.get? a = none → h₀.get? a = none := fun a ha => by
    obtain ⟨m, F, _, _⟩ := hF
    cases e : h₀.get? a with
    | none => rfl
    | some o => have := F.keep _ _ e; rw [ha] at this; cases this
  have hcD : ∀ n, (compEnvC scope cl C env).cells.lookup n ≠ some D := fun n hc => by
    obtain ⟨v, o, e, _⟩ := hF.cellAt (K.cells n D hc); rw [hDn] at e; cases e
  have hcI' : ∀ n, (compEnvC scope cl C env).cells.lookup n ≠ some I := fun n hc => hcI n (K.cells n I hc)
  have loop : ∀ s₃ : Shared, s₃ = { s₂ with heap := h₁, toks := s₂.toks + ([] : List (Str × Value)).length } →
      codeAny (model prog w) A (.compLoop (.ListComp elt [⟨target, iter, [], 0⟩] scope pos) 0 (.ref I) (.ref D) (compEnvC scope cl C env)) (RR (.ref D) C) s₃ := by
    rintro s₃ rfl
    refine compLoop_any (fun j s' => ∃ h' tk ys i, s' = { s₂ with heap := h', toks := tk } ∧ i ≤ Vs.length ∧ j = Vs.length + 1 - i ∧ St i h' ∧ h'.PlainList D ys ∧ Items (fun b => av b ∨ b = D) h' ys.toList (Ws.take i) ∧
        FrameIs (compEnvC scope cl C env) h₀ ρc (fun b => av b ∨ b = D) h' ∧ Off (fun b => av b ∨ b = D) h' ∧ X h' ∧ (∀ b o, b ≠ I → s₂.heap.get? b = some o → h'.get? b = some o) ∧
        (∀ i v, i < Vs.length → P i v → ∃ V, Vs[i]? = some V ∧ V.P (fun b => av b ∨ b = D) h' v)) ?_ (Vs.length + 1)
      ⟨h₁, _, #[], 0, rfl, Nat.zero_le _, rfl, hst₁, hacc, (by rw [List.take_zero]; exact Paired.nil), comp_frame K (hF.grow (grow_new hDn)) old hns₁ (by rw [hDD, hC]; exact Nat.le_succ _),
        (fun b hb => hb.elim (fun h => ho.up old b h) fun e => by rw [e]; obtain ⟨n, e⟩ := hacc; exact ⟨_, e⟩), hX.kp _ _ hXs old, fun b o _ e => old b o e,
        fun i v hi hp => let ⟨V, h1, h2⟩ := hP i v hi hp; ⟨V, h1, V.up (V.grow h2 (grow_new hDn)) (Kp.sqk old)⟩⟩
    rintro j s' ⟨H, tk, ys, i, rfl, hi, rfl, hsti, hacci, hits, hFi, hoi, hXi, hk, hPi⟩ E'
    by_cases hlt : i < Vs.length
    · refine W.item i _ _ _ hlt hsti fun v h₂ tk₂ hPv hst₂ hk₂ => ?_
      have hk₂' : ∀ b o, b ≠ I → H.get? b = some o → h₂.get? b = some o := fun b o hb e => hk₂ b o (fun hm => hb (List.mem_singleton.mp hm)) e
      obtain ⟨V, hV, hVv⟩ := hPi i v hlt hPv
      obtain ⟨W', hW'⟩ := get_of_lt (l := Ws) (i := i) (by rw [hlen]; exact hlt)
      have hIne : h₂.get? I ≠ none := by obtain ⟨o, e⟩ := hIe _ _ hst₂; rw [e]; exact fun h => nomatch h
      refine htgt { s₂ with heap := h₂, toks := tk₂ } v hIne _ _ ⟨_, hst₂⟩ ?_
      have hF₂ : FrameIs (compEnvC scope cl C env) h₀ ρc (fun b => av b ∨ b = D) h₂ := hFi.step hk₂' (.inl havI) (Ne.symm hCI) hcI' h0I
      have ho₂ : Off (fun b => av b ∨ b = D) h₂ := fun b hb => by
        by_cases hbI : b = I
        · rw [hbI]; exact hIe _ _ hst₂
        · obtain ⟨o, e⟩ := hoi b hb; exact ⟨o, hk₂' b o hbI e⟩
      have up₂ : ∀ {W : VP} {u}, W.P (fun b => av b ∨ b = D) H u → W.P (fun b => av b ∨ b = D) h₂ u := fun {W u} p => W.up p fun b o hb _ e => hk₂' b o (by rintro rfl; exact hb (.inl havI)) e
      refine hb i V C hV { s₂ with heap := h₂, toks := tk₂ } _ v ho₂ hF₂ (up₂ hVv) _ _ fun h₃ tk₃ hF₃ ho₃ hk₃ => ?_
      have k₂₃ : ∀ b o, b ≠ I → b ≠ C → H.get? b = some o → h₃.get? b = some o := fun b o a1 a2 e => hk₃ b o a2 (hk₂' b o a1 e)
      have hX₃ : X h₃ := hX _ _ hXi fun b o hb e => k₂₃ b o (by rintro rfl; exact hmI hb) (by rintro rfl; exact hmC hb) e
      refine he i W' C hW' { s₂ with heap := h₃, toks := tk₃ } _ ho₃ ⟨hF₃, hX₃, fun b hb' => .inl (hm b hb')⟩ _ _ fun y s₄ hy k₄ => ?_
      obtain ⟨h₄, tk₄, rfl, kp₄⟩ := k₄
      have hacc₄ : h₄.PlainList D ys := hacci.at fun o e => kp₄ _ o (k₂₃ D o hDI hDC e)
      have hlen' : ys.toList.length = i := by have := hits.length; rw [List.length_take, hlen, Nat.min_eq_left hi] at this; exact this
      have hys : ys.size ≤ sizeLine := by have : ys.toList.length = ys.size := by simp
                                          omega
      refine wpAny_list_append_plain (s := { s₂ with heap := h₄, toks := tk₄ }) hacc₄ (fun h₅ hl₅ hs₅ => ?_) hys
      have hs₅' : ∀ b o, b ≠ D → h₄.get? b = some o → h₅.get? b = some o := fun b o hb e => hs₅.extBut b o hb e
      have hF₄ : FrameIs (compEnvC scope cl C env) h₀ (ρt i) (fun b => av b ∨ b = D) h₄ := hF₃.up kp₄
      have allk : ∀ b o, b ≠ I → b ≠ C → b ≠ D → H.get? b = some o → h₅.get? b = some o := fun b o a1 a2 a3 e => hs₅' b o a3 (kp₄ b o (k₂₃ b o a1 a2 e))
      have sq₅ : ∀ {W : VP} {u}, W.P (fun b => av b ∨ b = D) h₄ u → W.P (fun b => av b ∨ b = D) h₅ u := fun {W u} p => W.up p fun b o hb _ e => hs₅' b o (fun e' => hb (.inr e')) e
      obtain ⟨oC, esC, epC, hoC, hdC⟩ := hFi.locals
      have sqH : ∀ {W : VP} {u}, W.P (fun b => av b ∨ b = D) H u → W.P (fun b => av b ∨ b = D) h₅ u := fun {W u} p => W.up p fun b o hb ⟨xs, n, hd⟩ e =>
        allk b o (by rintro rfl; exact hb (.inl havI)) (by intro e'; subst e'; change H.get? b = _ at hoC; rw [hoC] at e; cases e; rw [hdC] at hd; cases hd) (fun e' => hb (.inr e')) e
      refine ⟨Vs.length + 1 - (i + 1), by omega, h₅, tk₄, ys.push y, i + 1, rfl, hlt, rfl, ?_, hl₅, ?_, ?_, ?_, ?_, ?_, ?_⟩
      · exact W.frame _ _ _ hst₂ fun b hb' o e => hs₅' b o (fun h => hDf (h ▸ hb')) (kp₄ b o (hk₃ b o (fun (h : b = C) => hCf (h ▸ hb')) e))
      · have e1 : (ys.push y).toList = ys.toList ++ [y] := by simp
        have e2 : Ws.take (i + 1) = Ws.take i ++ [W'] := by rw [List.take_add_one, hW']; rfl
        rw [e1, e2]
        exact Paired.append (Paired.imp (fun _ _ p => sqH p) hits) (.cons (sq₅ hy) .nil)
      · obtain ⟨m₄, F₄, _, Cs₄⟩ := hF₄
        obtain ⟨_, _, Vs₀, _⟩ := hFi
        refine ⟨m₄, ⟨F₄.ns.at' fun o e => hs₅' _ o (Ne.symm hDC) e, fun b o e => hs₅' b o (by rintro rfl; rw [hh b hDn] at e; cases e) (F₄.keep b o e), F₄.above⟩, fun z V' hz => ?_, fun n c hc => ?_⟩
        · obtain ⟨u, hu, h1⟩ := Vs₀ z V' hz
          refine ⟨u, sqH hu, .inr ?_⟩
          rcases h1 with ⟨a1, _⟩ | ⟨a1, c, a2, o, a3, a4⟩
          · have := (K.vars (z, V') (mem_of_lookup hz)).2.2.2
            have a1' : (relabel scope env).names.lookup z = some .local := a1
            rw [this] at a1'; cases a1'
          · refine ⟨a1, c, a2, o, allk c o (by rintro rfl; exact hcI' z a2) ?_ (by rintro rfl; exact hcD z a2) a3, a4⟩
            rintro rfl
            change H.get? c = _ at hoC
            rw [hoC] at a3; cases a3; rw [hdC] at a4; cases a4
        · obtain ⟨u, o, e, d⟩ := Cs₄ n c hc
          exact ⟨u, o, hs₅' c o (by rintro rfl; exact hcD n hc) e, d⟩
      · intro b hb'
        by_cases hbD : b = D
        · rw [hbD]; obtain ⟨n, e⟩ := hl₅; exact ⟨_, e⟩
        · obtain ⟨o, e⟩ := ho₃ b hb'; exact ⟨o, hs₅' b o hbD (kp₄ b o e)⟩
      · exact hX _ _ hX₃ fun b o hb' e => hs₅' b o (by rintro rfl; exact hmD hb') (kp₄ b o e)
      · exact fun b o hbI e => allk b o hbI (below b (Heap.lt_size e)).1 (below b (Heap.lt_size e)).2 (hk b o hbI e)
      · exact fun i' v' hi' hp' => let ⟨V', h1, h2⟩ := hPi i' v' hi' hp'; ⟨V', h1, sqH h2⟩
    · have hin : i = Vs.length := by omega
      subst hin
      refine W.done _ _ _ hsti fun h₂ tk₂ hk₂ => ?_
      have hk₂' : ∀ b o, b ≠ I → H.get? b = some o → h₂.get? b = some o := fun b o hb e => hk₂ b o (fun hm => hb (List.mem_singleton.mp hm)) e
      have hF₂ : FrameIs (compEnvC scope cl C env) h₀ ρc (fun b => av b ∨ b = D) h₂ := hFi.step hk₂' (.inl havI) (Ne.symm hCI) hcI' h0I
      obtain ⟨m₂, F₂, _, _⟩ := hF₂
      refine hRR D C h₂ tk₂ m₂ ys hDn hCn hDC F₂.ns (hacci.at fun o e => hk₂' D o hDI e) ?_ (hX _ _ hXi fun b o hb' e => hk₂' b o (by rintro rfl; exact hmI hb') e) fun b o hbI e => hk₂' b o hbI (hk b o hbI e)
      rw [← hlen, List.take_length] at hits
      exact hits.up fun b o hb' _ e => hk₂' b o (by rintro rfl; exact hb' (.inl havI)) e
  exact codeAny_compStart_list (loop _ rfl) (W.self 0 _ _ _ hst₁ (loop _ rfl))

/-- a comprehension as an expression -/
theorem ev_comp {elt target iter : Expr} {scope : Scope} {cl : List (Str × Addr)} {pos : Pos} {Vs Ws : List VP} {ρ ρc : Locs} {md : Addr → Prop} {X : Heap → Prop} {hX : OnMd md X} (ρt : Nat → Locs) (K : Caps env scope cl ρ ρc)
    (hit : EvIt prog w A env (frHP env h₀ ρ md X hX) iter Vs) (hlen : Ws.length = Vs.length)
    (hb : ∀ i V C, Vs[i]? = some V → Binds prog w A (compEnvC scope cl C env) h₀ target V ρc (ρt i))
    (he : ∀ i W' C, Ws[i]? = some W' → Ev prog w A (compEnvC scope cl C env) (frHP (compEnvC scope cl C env) h₀ (ρt i) md X hX) elt W')
    (hsz : Vs.length ≤ sizeLine := by size_fits)
    (htgt : ∀ it v, letOwnedTupleGo target it v = pure () := by intro _ _; kernel_rfl!) (hs : ∀ x, foldedSetIterable iter env x = pure x := by intro _; kernel_rfl!) :
    Ev prog w A env (frHP env h₀ ρ md X hX) (.ListComp elt [⟨target, iter, [], 0⟩] scope pos) (VList Ws) := by
  intro s av ho hg E Q hq
  rw [eval_ListComp]
  refine wpAny_comprehension_free (use := none) rfl hs K.clos K.kind K.names (hit s av ho hg E _ fun I s' fp P St k hI hIe W hst hfp hfp2 hP => ?_)
  obtain ⟨hF, hXs, hm⟩ := hg
  have hcI : ∀ n, env.cells.lookup n ≠ some I := fun n hc => by
    obtain ⟨v, o, e, _⟩ := hF.cellAt hc; rw [hI] at e; cases e
  have h0I : h₀.get? I = none := by
    obtain ⟨m, F, _, _⟩ := hF
    cases e : h₀.get? I with
    | none => rfl
    | some o => have := F.keep _ _ e; rw [hI] at this; cases this
  have hmI : ¬ md I := fun h => by obtain ⟨o, e⟩ := ho I (hm I h); rw [hI] at e; cases e
  refine comp_core (RR := fun acc C => compPost (model prog w) A E none Q acc C) (av := fun b => av b ∨ b = I) hlen hsz K hX (fun b hb => .inl (hm b hb)) (fun b hb => hb.elim (fun h => ho.up k.kp b h) fun e => by rw [e]; exact hIe _ _ hst)
    ((hF.grow (grow_new hI)).up k.kp) (hX.kp _ _ hXs k.kp) (.inr rfl) hmI h0I hcI W hIe hst hfp hP (fun s v _ E Q _ hq => wpAny_of_eq (htgt _ _) hq) hb he ?_
  intro D C h' tk m' ys hD hC hDC hn hl hits hX' hk
  have hDs : s.heap.get? D = none := by
    cases e : s.heap.get? D with
    | none => rfl
    | some o => have := k.kp _ _ e; rw [hD] at this; cases this
  have kk : Kp s.heap h' := fun b o e => hk b o (by rintro rfl; rw [hI] at e; cases e) (k.kp b o e)
  refine ⟨m', hn, fun h'' hs'' => ?_⟩
  have hCs : s.heap.get? C = none := by
    cases e : s.heap.get? C with
    | none => rfl
    | some o => have := k.kp _ _ e; rw [hC] at this; cases this
  obtain ⟨oC, esC, epC, hoC, hdC, _⟩ := id hn
  have kk' : Kp s.heap h'' := fun b o e => hs''.extBut b o (by rintro rfl; rw [hCs] at e; cases e) (kk b o e)
  have hl' : h''.PlainList D ys := hl.extBut hs''.extBut hDC
  have sq : SqK (fun b => (av b ∨ b = I) ∨ b = D) h' h'' := fun b o _ ⟨xs, n, hd⟩ e => hs''.extBut b o (by rintro rfl; rw [hoC] at e; cases e; rw [hdC] at hd; cases hd) e
  obtain ⟨hk₁, tk₁, rfl, _⟩ := k
  refine hq _ _ ⟨D, ys.toList, rfl, Off.fresh ho hDs, by simpa using hl'.isList, ((hits.up sq).grow fun b hb => .inl (.inl (.inl hb)))⟩ (Kps.of kk')
end
end Mine

end
section
namespace Mine

section
variable {prog : Program} {w : World} {A : Around} {env : Env} {h₀ : Heap} {md : Addr → Prop} {ρ ρc : Locs} {X : Heap → Prop}

theorem FrameIs.conv {av : Addr → Prop} {h : Heap} {x : Str} {V V' : VP} (hF : FrameIs env h₀ ((x, V) :: ρ) av h) (hi : ∀ v, V.P av h v → V'.P av h v) : FrameIs env h₀ ((x, V') :: ρ) av h := by
  obtain ⟨m, F, Vs, C⟩ := hF
  refine ⟨m, F, fun y W hy => ?_, C⟩
  by_cases hyx : y = x
  · subst hyx
    rw [List.lookup_cons_self] at hy
    obtain rfl := Option.some.inj hy
    obtain ⟨v, hv, h1⟩ := Vs y V (by rw [List.lookup_cons_self])
    exact ⟨v, hi v hv, h1⟩
  · rw [List.lookup_cons, show (y == x) = false by simpa using hyx] at hy
    exact Vs y W (by rw [List.lookup_cons, show (y == x) = false by simpa using hyx]; exact hy)

theorem none_of_kp {h h' : Heap} (k : Kp h h') {a : Addr} (ha : h'.get? a = none) : h.get? a = none := by
  cases e : h.get? a with
  | none => rfl
  | some o => have := k _ _ e; rw [ha] at this; cases this

/-- a name bound to a new list, by a display: the list is known by its address -/
theorem assign_list_k {x : Str} {px pos lp : Pos} {elts : List Expr} {Vs : List VP} {hX : OnMd md X} (f : Fx env h₀ md) (ha : ArgsEv prog w A env (frHP env h₀ ρ md X hX) lp elts Vs)
    (hx : env.kindOf x = some .local ∨ (env.kindOf x = some .cell ∧ ∃ c, env.cells.lookup x = some c)) (hsz : Vs.length ≤ sizeLine := by size_fits)
    (hs : swapsWith (.List elts lp) (some (.Name x px)) pos.line env = pure false := by kernel_rfl!)
    {s : Shared} {av : Addr → Prop} (hm : ∀ b, md b → av b) (ho : Off av s.heap) (hF : FrameIs env h₀ ρ av s.heap) (hXs : X s.heap) {E : Value → Shared → Prop} {Q : Flow → Shared → Prop}
    (hq : ∀ D s' vs, s.heap.get? D = none → s'.heap.PlainList D vs.toArray → Items (fun b => av b ∨ b = D) s'.heap vs Vs → FrameIs env h₀ ((x, VRef D) :: ρ) (fun b => av b ∨ b = D) s'.heap → X s'.heap →
      Off (fun b => av b ∨ b = D) s'.heap → Mv env md s s' → Q .next s') : wpAny (model prog w) A (exec (.Assign [.Name x px] (.List elts lp) pos) env) Q E s := by
  refine wpAny_Assign_Name (List_ (ha s av ho ⟨hF, hXs, hm⟩ E _ fun vs s₁ hvs k₁ => wpAny_newObj_type ?_ (by show vs.toArray.size ≤ sizeLine; rw [List.size_toArray, hvs.length]; exact hsz))) hs
  generalize hD : s₁.heap.objs.size = D
  have hD1 : s₁.heap.get? D = none := hD ▸ new_none _
  have hDs : s.heap.get? D = none := none_of_kp k₁.kp hD1
  generalize hob : ({ cls := .type "list", dict := none, data := .seq vs.toArray } : Obj) = ob
  have k₂ : Kps s { s₁ with heap := s₁.heap.push ob } := k₁.trans (Kps.push _ s₁.toks)
  have hDg : (s₁.heap.push ob).get? D = some ob := by subst hob; exact hD ▸ Heap.get?_push_size _ rfl
  have ho' : Off (fun b => av b ∨ b = D) (s₁.heap.push ob) := fun b hb => hb.elim (fun h => (ho.up k₂.kp) b h) fun e => by rw [e]; exact ⟨_, hDg⟩
  have hits : Items (fun b => av b ∨ b = D) (s₁.heap.push ob) vs Vs := (hvs.grow (grow_new hD1)).up (Kps.push ob s₁.toks).sqk
  refine store (s := { s₁ with heap := s₁.heap.push ob }) (V := VRef D) f.kind f.cel f.mdo hX hx ho' ((hF.grow (grow_new hDs)).up k₂.kp) (hX.kp _ _ hXs k₂.kp) rfl fun s₃ hF₃ hX₃ ho₃ mv₃ => ?_
  obtain ⟨h3, t3, rfl, k3⟩ := id mv₃
  obtain ⟨oL, esL, epL, hoL, hdL⟩ := hF.locals
  have hDL : D ≠ env.locals := by rintro rfl; rw [hDs] at hoL; cases hoL
  have hDc : ∀ n, env.cells.lookup n ≠ some D := fun n hc => by obtain ⟨v, o, e, _⟩ := hF.cellAt hc; rw [hDs] at e; cases e
  have hDm : ¬ md D := fun h => by obtain ⟨o, e⟩ := ho D (hm D h); rw [hDs] at e; cases e
  have sq : SqK (fun b => av b ∨ b = D) (s₁.heap.push ob) h3 := fun b o hb ⟨xs, n, hd⟩ e => k3 b o
    (by rintro rfl; have := k₂.kp _ _ hoL; change (s₁.heap.push ob).get? _ = _ at this; rw [this] at e; cases e; rw [hdL] at hd; cases hd)
    (fun n' hc => by obtain ⟨v, o', e', d'⟩ := hF.cellAt hc; have := k₂.kp _ _ e'; change (s₁.heap.push ob).get? _ = _ at this; rw [this] at e; cases e; rw [d'] at hd; cases hd)
    (fun h => hb (.inl (hm b h))) e
  exact hq D _ vs hDs ⟨0, k3 D _ hDL hDc hDm (by subst hob; exact hDg)⟩ (hits.up sq) hF₃ hX₃ ho₃ (k₂.mv.trans mv₃)

/-- a name bound to a comprehension's list -/
theorem assign_comp_k {elt target iter : Expr} {scope : Scope} {cl : List (Str × Addr)} {pos spos py : Pos} {y : Str} {Vs Ws : List VP} {hX : OnMd md X} (ρt : Nat → Locs) (f : Fx env h₀ md) (K : Caps env scope cl ρ ρc)
    (hit : EvIt prog w A env (frHP env h₀ ρ md X hX) iter Vs) (hlen : Ws.length = Vs.length)
    (hb : ∀ i V C, Vs[i]? = some V → Binds prog w A (compEnvC scope cl C env) h₀ target V ρc (ρt i))
    (he : ∀ i W' C, Ws[i]? = some W' → Ev prog w A (compEnvC scope cl C env) (frHP (compEnvC scope cl C env) h₀ (ρt i) md X hX) elt W')
    (hy : env.kindOf y = some .local ∨ (env.kindOf y = some .cell ∧ ∃ c, env.cells.lookup y = some c))
    (hsw : swapsWith (.ListComp elt [⟨target, iter, [], 0⟩] scope pos) (some (.Name y py)) spos.line env = pure true) (hsz : Vs.length ≤ sizeLine)
    (htgt : ∀ (I : Addr) (St : Nat → Heap → Prop), (∀ i h, St i h → ∃ o, h.get? I = some o) → ∀ s v, s.heap.get? I ≠ none → ∀ E (Q : Unit → Shared → Prop), (∃ i, St i s.heap) → Q () s → wpAny (model prog w) A (letOwnedTupleGo target (.ref I) v) Q E s)
    (hs : ∀ x, foldedSetIterable iter env x = pure x)
    {s : Shared} {av : Addr → Prop} (hm : ∀ b, md b → av b) (ho : Off av s.heap) (hF : FrameIs env h₀ ρ av s.heap) (hXs : X s.heap) {E : Value → Shared → Prop} {Q : Flow → Shared → Prop}
    (hq : ∀ D s' vs, s.heap.get? D = none → s'.heap.PlainList D vs.toArray → Items (fun b => av b ∨ b = D) s'.heap vs Ws → FrameIs env h₀ ((y, VRef D) :: ρ) (fun b => av b ∨ b = D) s'.heap → X s'.heap →
      Off (fun b => av b ∨ b = D) s'.heap → Mv env md s s' → Q .next s') :
    wpAny (model prog w) A (exec (.Assign [.Name y py] (.ListComp elt [⟨target, iter, [], 0⟩] scope pos) spos) env) Q E s := by
  rw [exec_Assign_Name_used _ _ _ _ hsw]
  refine wpAny_bind (wpAny_standAt (wpAny_bind ?_))
  show wpAny _ A (do let _ ← comprehension (.ListComp elt [⟨target, iter, [], 0⟩] scope pos) scope env _ (newList []) false (eval iter env) (some (assign (.Name y py) env))) _ _ s
  refine wpAny_bind (wpAny_mono (wpAny_comprehension_free (use := some (assign (.Name y py) env)) (Q := fun _ s' => Q .next s') rfl hs K.clos K.kind K.names
    (hit s av ho ⟨hF, hXs, hm⟩ E _ fun I s' fp P St k hI hIe W hst hfp hfp2 hP => ?_)) (fun _ s' hq => wpAny_pure (wpAny_pure hq)) fun _ _ e => e)
  have hcI : ∀ n, env.cells.lookup n ≠ some I := fun n hc => by
    obtain ⟨v, o, e, _⟩ := hF.cellAt hc; rw [hI] at e; cases e
  have h0I : h₀.get? I = none := by
    obtain ⟨m, F, _, _⟩ := hF
    exact none_of_kp F.keep hI
  have hmI : ¬ md I := fun h => by obtain ⟨o, e⟩ := ho I (hm I h); rw [hI] at e; cases e
  refine comp_core (RR := fun acc C => compPost (model prog w) A E (some (assign (.Name y py) env)) (fun _ s' => Q .next s') acc C) (av := fun b => av b ∨ b = I) hlen hsz K hX (fun b hb => .inl (hm b hb)) (fun b hb => hb.elim (fun h => ho.up k.kp b h) fun e => by rw [e]; exact hIe _ _ hst)
    ((hF.grow (grow_new hI)).up k.kp) (hX.kp _ _ hXs k.kp) (.inr rfl) hmI h0I hcI W hIe hst hfp hP (htgt I St hIe) hb he ?_
  intro D C h' tk m' ys hD hC hDC hn hl hits hX' hk
  have hDs : s.heap.get? D = none := none_of_kp k.kp hD
  have hCs : s.heap.get? C = none := none_of_kp k.kp hC
  have kk : Kp s.heap h' := fun b o e => hk b o (by rintro rfl; rw [hI] at e; cases e) (k.kp b o e)
  obtain ⟨oC, esC, epC, hoC, hdC, _⟩ := id hn
  obtain ⟨hk₁, tk₁, rfl, _⟩ := k
  have hitsD : Items (fun b => av b ∨ b = D) h' ys.toList Ws := hits.grow fun b hb => .inl (hb.elim (fun h => .inl (.inl h)) .inr)
  have hDg : ∃ n, h'.get? D = some { cls := .type "list", data := .seq ys n } := hl
  have ho' : Off (fun b => av b ∨ b = D) h' := fun b hb => hb.elim (fun h => (ho.up kk) b h) fun e => by rw [e]; obtain ⟨n, e⟩ := hDg; exact ⟨_, e⟩
  obtain ⟨oL, esL, epL, hoL, hdL⟩ := hF.locals
  have hDL : D ≠ env.locals := by rintro rfl; rw [hDs] at hoL; cases hoL
  have hDc : ∀ n, env.cells.lookup n ≠ some D := fun n hc => by obtain ⟨v, o, e, _⟩ := hF.cellAt hc; rw [hDs] at e; cases e
  have hDm : ¬ md D := fun h => by obtain ⟨o, e⟩ := ho D (hm D h); rw [hDs] at e; cases e
  have hCL : C ≠ env.locals := by rintro rfl; rw [hCs] at hoL; cases hoL
  have hCc : ∀ n, env.cells.lookup n ≠ some C := fun n hc => by obtain ⟨v, o, e, _⟩ := hF.cellAt hc; rw [hCs] at e; cases e
  have hCm : ¬ md C := fun h => by obtain ⟨o, e⟩ := ho C (hm C h); rw [hCs] at e; cases e
  show wpAny _ A (assign (.Name y py) env (.ref D)) _ _ _
  refine wpAny_assign_Name (store (s := { s with heap := h', toks := tk }) (V := VRef D) f.kind f.cel f.mdo hX hy ho' ((hF.grow (grow_new hDs)).up kk) hX' rfl fun s₃ hF₃ hX₃ ho₃ mv₃ => ?_)
  obtain ⟨h3, t3, rfl, k3⟩ := id mv₃
  obtain ⟨oC', hoC', hdC'⟩ : ∃ o, h3.get? C = some o ∧ o.data = .dict esC epC := ⟨oC, k3 C oC hCL hCc hCm hoC, hdC⟩
  refine ⟨m', hn.at' fun o e => k3 C o hCL hCc hCm e, fun h'' hs'' => ?_⟩
  have hc3 : ∀ b o, b ≠ C → h3.get? b = some o → h''.get? b = some o := fun b o hb e => hs''.extBut b o hb e
  have sq : SqK (fun b => av b ∨ b = D) h' h'' := fun b o hb ⟨xs, n, hd⟩ e => hc3 b o (by rintro rfl; rw [hoC] at e; cases e; rw [hdC] at hd; cases hd) (k3 b o
    (by rintro rfl; rw [kk _ _ hoL] at e; cases e; rw [hdL] at hd; cases hd)
    (fun n' hc => by obtain ⟨v, o', e', d'⟩ := hF.cellAt hc; rw [kk _ _ e'] at e; cases e; rw [d'] at hd; cases hd)
    (fun h => hb (.inl (hm b h))) e)
  have hF4 : FrameIs env h₀ ((y, VRef D) :: ρ) (fun b => av b ∨ b = D) h'' := by
    obtain ⟨m₃, F₃, V₃, C₃⟩ := hF₃
    refine ⟨m₃, ⟨F₃.ns.at' fun o e => hc3 _ o (Ne.symm hCL) e, fun b o e => hc3 b o (by
        rintro rfl
        obtain ⟨_, F, _, _⟩ := hF
        have := F.keep _ _ e
        rw [hCs] at this; cases this) (F₃.keep b o e), F₃.above⟩, fun z V hz => ?_, fun n c hc => ?_⟩
    · obtain ⟨v, hv, h1⟩ := V₃ z V hz
      refine ⟨v, V.up hv fun b o _ ⟨xs, n, hd⟩ e => hc3 b o (by rintro rfl; rw [hoC'] at e; cases e; rw [hdC'] at hd; cases hd) e, ?_⟩
      rcases h1 with h1 | ⟨a1, c, a2, o, a3, a4⟩
      · exact .inl h1
      · exact .inr ⟨a1, c, a2, o, hc3 c o (by rintro rfl; exact hCc z a2) a3, a4⟩
    · obtain ⟨v, o, e, d⟩ := C₃ n c hc
      exact ⟨v, o, hc3 c o (by rintro rfl; exact hCc n hc) e, d⟩
  obtain ⟨nD, hDg⟩ := hDg
  refine hq D { s with heap := h'', toks := t3 } ys.toList hDs ⟨nD, by simpa using hc3 D _ hDC (k3 D _ hDL hDc hDm hDg)⟩ (hitsD.up sq) hF4 (hX _ _ hX₃ fun b o hb e => hc3 b o (by rintro rfl; exact hCm hb) e)
    (fun b hb => ?_) ⟨h'', t3, rfl, fun b o a1 a2 a3 e => hc3 b o (by rintro rfl; rw [hCs] at e; cases e) (k3 b o a1 a2 a3 (kk b o e))⟩
  obtain ⟨o, e⟩ := ho₃ b hb
  by_cases hbC : b = C
  · obtain ⟨o', e'⟩ : ∃ o, s.heap.get? b = some o ∨ b = D := hb.elim (fun h => let ⟨o, e⟩ := ho b h; ⟨o, .inl e⟩) fun h => ⟨oC, .inr h⟩
    rcases e' with e' | e'
    · rw [hbC, hCs] at e'; cases e'
    · exact absurd (e'.symm.trans hbC) hDC
  · exact ⟨o, hc3 b o hbC e⟩

theorem tgt_name {x : Str} {px : Pos} : ∀ (I : Addr) (St : Nat → Heap → Prop), (∀ i h, St i h → ∃ o, h.get? I = some o) → ∀ (s : Shared) v, s.heap.get? I ≠ none → ∀ E (Q : Unit → Shared → Prop), (∃ i, St i s.heap) → Q () s → wpAny (model prog w) A (letOwnedTupleGo (.Name x px) (.ref I) v) Q E s :=
  fun I St _ s v _ E Q _ hq => wpAny_pure hq

/-- the same, the list a value like others -/
theorem ht_assign_comp {elt target iter : Expr} {scope : Scope} {cl : List (Str × Addr)} {pos spos py : Pos} {y : Str} {Vs Ws : List VP} {hX : OnMd md X} (ρt : Nat → Locs) (f : Fx env h₀ md) (K : Caps env scope cl ρ ρc)
    (hit : EvIt prog w A env (frHP env h₀ ρ md X hX) iter Vs) (hlen : Ws.length = Vs.length)
    (hb : ∀ i V C, Vs[i]? = some V → Binds prog w A (compEnvC scope cl C env) h₀ target V ρc (ρt i))
    (he : ∀ i W' C, Ws[i]? = some W' → Ev prog w A (compEnvC scope cl C env) (frHP (compEnvC scope cl C env) h₀ (ρt i) md X hX) elt W')
    (hy : env.kindOf y = some .local ∨ (env.kindOf y = some .cell ∧ ∃ c, env.cells.lookup y = some c))
    (hsw : swapsWith (.ListComp elt [⟨target, iter, [], 0⟩] scope pos) (some (.Name y py)) spos.line env = pure true) (hsz : Vs.length ≤ sizeLine)
    (htgt : ∀ (I : Addr) (St : Nat → Heap → Prop), (∀ i h, St i h → ∃ o, h.get? I = some o) → ∀ s v, s.heap.get? I ≠ none → ∀ E (Q : Unit → Shared → Prop), (∃ i, St i s.heap) → Q () s → wpAny (model prog w) A (letOwnedTupleGo target (.ref I) v) Q E s)
    (hs : ∀ x, foldedSetIterable iter env x = pure x := by intro _; kernel_rfl!) :
    HT prog w A env h₀ md ρ X (exec (.Assign [.Name y py] (.ListComp elt [⟨target, iter, [], 0⟩] scope pos) spos) env) ((y, VList Ws) :: ρ) X :=
  fun s av hm ho hF hXs E Q hq => assign_comp_k ρt f K hit hlen hb he hy hsw hsz htgt hs hm ho hF hXs fun D s' vs hD hl hits hF' hX' ho' mv =>
    hq s' ((hF'.grow fun b hb => .inl (.inl hb)).conv fun v hv => ⟨D, vs, hv, Off.fresh ho hD, hl.isList, hits.grow fun b hb => .inl (.inl hb)⟩) hX' (fun b hb => ho' b (.inl hb)) mv
end
end Mine

end
section
namespace Mine

/-- a def of the text stands at f -/
def FnAt (d : DefItem) (h : Heap) (f : Addr) : Prop := ∃ c' o pm doc, h.get? f = some o ∧ o.data = .func (docDef d.name d.params d.body d.scope pm (.ref c') doc) ∧ h.CodeRec (.ref c') d.name
def GlobAt (defs : List DefItem) (names : List Str) (h : Heap) : Prop := ∃ N mg mb consts objs, Glob N mg mb defs consts objs names h
theorem GlobAt.keeps {defs : List DefItem} {names : List Str} {h h' : Heap} (x : GlobAt defs names h) (k : Kp h h') : GlobAt defs names h' := let ⟨N, mg, mb, c, o, G⟩ := x; ⟨N, mg, mb, c, o, G.keeps k⟩
/-- what a call of the def gives back -/
def CallOk (prog : Program) (w : World) (A : Around) (defs : List DefItem) (names : List Str) (d : DefItem) (Vs : List VP) (V : VP) : Prop :=
  ∀ (s : Shared) (av : Addr → Prop) (f : Addr) (vs : List Value), Off av s.heap → FnAt d s.heap f → GlobAt defs names s.heap → Items av s.heap vs Vs → Op prog w A (call (.ref f) vs) s (V.P av)

/-- the statements end in a return of a V -/
def HR (prog : Program) (w : World) (A : Around) (env : Env) (h₀ : Heap) (md : Addr → Prop) (ρ : Locs) (X : Heap → Prop) (t : Sem Flow) (V : VP) : Prop :=
  ∀ (s : Shared) (av : Addr → Prop), (∀ b, md b → av b) → Off av s.heap → FrameIs env h₀ ρ av s.heap → X s.heap → ∀ (E : Value → Shared → Prop) (Q : Flow → Shared → Prop),
    (∀ v s', V.P av s'.heap v → Kp h₀ s'.heap → Mv env md s s' → Q (.ret v) s') → wpAny (model prog w) A t Q E s

theorem FrameIs.keep {env : Env} {h₀ : Heap} {ρ : Locs} {av : Addr → Prop} {h : Heap} (hF : FrameIs env h₀ ρ av h) : Kp h₀ h := by obtain ⟨m, F, _, _⟩ := hF; exact F.keep

section
variable {prog : Program} {w : World} {A : Around} {env : Env} {h₀ : Heap} {md : Addr → Prop} {ρ ρ₁ : Locs} {X X₁ : Heap → Prop} {V : VP} {defs : List DefItem} {names : List Str}

theorem hr_cons {st : Stmt} {rest : List Stmt} (h₁ : HT prog w A env h₀ md ρ X (exec st env) ρ₁ X₁) (h₂ : HR prog w A env h₀ md ρ₁ X₁ (execs rest env) V) : HR prog w A env h₀ md ρ X (execs (st :: rest) env) V :=
  fun s av hm ho hF hX E Q hq => wpAny_execs_cons (h₁ s av hm ho hF hX E _ fun s' hF' hX' ho' k => h₂ s' av hm ho' hF' hX' E Q fun v s'' hv hk k' => hq v s'' hv hk (k.trans k'))
theorem hr_return {e : Expr} {pos : Pos} {rest : List Stmt} (hX : OnMd md X) (he : Ev prog w A env (frHP env h₀ ρ md X hX) e V) : HR prog w A env h₀ md ρ X (execs (.Return (some e) pos :: rest) env) V :=
  fun s av hm ho hF hXs E Q hq => wpAny_execs_cons (wpAny_Return_some (he s av ho ⟨hF, hXs, hm⟩ E _ fun v s₁ hv k₁ => hq v s₁ hv (hF.up k₁.kp).keep k₁.mv))
theorem hr_if {t : Expr} {body orelse rest : List Stmt} {pos : Pos} {c : Bool} (hX : OnMd md X) (ht : Tst prog w A env (frHP env h₀ ρ md X hX) t c)
    (h1 : c = true → HR prog w A env h₀ md ρ X (execs body env) V) (h2 : c = false → HR prog w A env h₀ md ρ X (execs orelse env) V) : HR prog w A env h₀ md ρ X (execs (.If t body orelse pos :: rest) env) V :=
  fun s av hm ho hF hXs E Q hq => wpAny_execs_cons (wpAny_If (ht s av ho ⟨hF, hXs, hm⟩ E _ fun b s₁ hb k₁ => by
    subst hb
    cases b with
    | true => exact h1 rfl s₁ av hm (ho.up k₁.kp) (hF.up k₁.kp) (hX.kp _ _ hXs k₁.kp) E _ fun v s₂ hv hk k₂ => hq v s₂ hv hk (k₁.mv.trans k₂)
    | false => exact h2 rfl s₁ av hm (ho.up k₁.kp) (hF.up k₁.kp) (hX.kp _ _ hXs k₁.kp) E _ fun v s₂ hv hk k₂ => hq v s₂ hv hk (k₁.mv.trans k₂)))

/-- a def of the text by its name -/
theorem ev_callD {d : DefItem} {np pos : Pos} {e : Expr} {rest : List Expr} {Vs : List VP} {hX : OnMd md X} (C : Cx A env h₀ defs names) (hd : d ∈ defs) (hnd : d.params.defaults = []) (hx : env.kindOf d.name = some .globalImplicit)
    (ha : ArgsEv prog w A env (frHP env h₀ ρ md X hX) pos (e :: rest) Vs) (hc : CallOk prog w A defs names d Vs V)
    (he : starEach (e :: rest) env = (false, eval e env) :: starEach rest env := by kernel_rfl!) (hdb : (d.name == ("__debug__" : Str)) = false := by decide) :
    Ev prog w A env (frHP env h₀ ρ md X hX) (.Call (.Name d.name np) (e :: rest) [] pos) V := by
  intro s av ho hg E Q hq
  obtain ⟨N, mg, mb, consts, objs, GG⟩ := C.glob
  have G' := GG.keeps hg.1.keep
  obtain ⟨f, c', o, pm, doc, _, _, h3, h4, h5, h6⟩ := (G'.made d hd).plain hnd
  refine Call_ (Name_function_global C.kind hx (loadGlobal_global (C.globals ▸ G'.g) h3 ?_) hdb)
  refine callWith_def (o := o) h5 (ha s av ho hg E _ fun vs s₁ hvs k₁ => ⟨k₁.kp _ _ h4, ?_⟩) he
  exact hc s₁ av f vs (ho.up k₁.kp) ⟨c', o, pm, doc, k₁.kp _ _ h4, h5, h6.keeps k₁.kp⟩ ⟨N, mg, mb, consts, objs, G'.keeps k₁.kp⟩ hvs E Q fun y s₂ hy k₂ => hq y s₂ hy (k₁.trans k₂)

theorem frame_of {name : Str} {scope : Scope} {L a : Addr} {cd : Value} {h : Heap} {m : Str → Option Value} {av : Addr → Prop} (F : Fr h₀ L h m) (hρ : ∀ x V, ρ.lookup x = some V → ∃ v, V.P av h v ∧ (envOf name scope L a cd).kindOf x = some .local ∧ m x = some v) :
    FrameIs (envOf name scope L a cd) h₀ ρ av h := ⟨m, F, fun x V hx => let ⟨v, hv, hl, hm⟩ := hρ x V hx; ⟨v, hv, .inl ⟨hl, hm⟩⟩, fun n c hc => by simp [envOf] at hc⟩
theorem celOk_of {name : Str} {scope : Scope} {L a : Addr} {cd : Value} : CelOk (envOf name scope L a cd) h₀ := ⟨fun n n' c hc => by simp [envOf] at hc, fun n c hc => by simp [envOf] at hc, fun n c hc => by simp [envOf] at hc⟩
theorem fx_of {name : Str} {scope : Scope} {L a : Addr} {cd : Value} (hk : scope.kind = .function) : Fx (envOf name scope L a cd) h₀ noMd := ⟨hk, celOk_of, mdOk_none⟩

/-- a def of one parameter -/
theorem callOk1 {d : DefItem} {p : Str} {V₁ : VP} (hroom : A.depth < recursionLimit) (hh : A.handled = none) (hbind : ∀ pm cd doc v, bindArgs (docDef d.name d.params d.body d.scope pm cd doc) ⟨[v], []⟩ = pure [(p, v)])
    (hloc : d.scope.names.lookup p = some .local) (hcell : ∀ x ∈ d.scope.names, x.2 ≠ .cell) (hk : d.scope.kind = .function) (hco : d.scope.isCoroutine = false) (hgen : d.scope.isGenerator = false)
    (hbody : ∀ L f cd h₀, Cx (A.deeper (envOf d.name d.scope L f cd)) (envOf d.name d.scope L f cd) h₀ defs names →
      HR prog w (A.deeper (envOf d.name d.scope L f cd)) (envOf d.name d.scope L f cd) h₀ noMd [(p, V₁)] noX (execs d.body (envOf d.name d.scope L f cd)) V) : CallOk prog w A defs names d [V₁] V := by
  intro s av f vs ho hf hG hvs E Q hq
  obtain ⟨c', o, pm, doc, h1, h2, h3⟩ := hf
  cases hvs with | cons hv r => cases r with | nil =>
  rename_i v
  obtain ⟨N, mg, mb, consts, objs, G⟩ := hG
  refine wpAny_call (call_plain_ret hroom h1 h2 G.nolimit h3 (hbind _ _ _ _) (by simpa using hloc) (fun h₁ F => ?_) hco hgen hk hcell)
  have k : Kp s.heap h₁ := F.keep
  refine hbody _ _ _ _ ⟨hk, rfl, rfl, hh, ⟨N, mg, mb, consts, objs, G⟩⟩ { s with heap := h₁, toks := _ } av (fun _ h => h.elim) (ho.up k) (frame_of F fun x W hx => ?_) trivial _ _ fun v' s' hv' hk' mv => ?_
  · by_cases hxp : x = p
    · subst hxp
      rw [List.lookup_cons_self] at hx
      obtain rfl := Option.some.inj hx
      exact ⟨v, V₁.up hv (Kp.sqk k), hloc, by simp⟩
    · rw [List.lookup_cons, show (x == p) = false by simpa using hxp] at hx; simp at hx
  · obtain ⟨h2, t2, rfl, _⟩ := mv
    exact hq v' _ hv' (Kps.of hk')
/-- a def of two parameters -/
theorem callOk2 {d : DefItem} {p q : Str} {V₁ V₂ : VP} (hpq : p ≠ q) (hroom : A.depth < recursionLimit) (hh : A.handled = none) (hbind : ∀ pm cd doc v u, bindArgs (docDef d.name d.params d.body d.scope pm cd doc) ⟨[v, u], []⟩ = pure [(p, v), (q, u)])
    (hloc : d.scope.names.lookup p = some .local) (hloc' : d.scope.names.lookup q = some .local) (hcell : ∀ x ∈ d.scope.names, x.2 ≠ .cell) (hk : d.scope.kind = .function) (hco : d.scope.isCoroutine = false) (hgen : d.scope.isGenerator = false)
    (hbody : ∀ L f cd h₀, Cx (A.deeper (envOf d.name d.scope L f cd)) (envOf d.name d.scope L f cd) h₀ defs names →
      HR prog w (A.deeper (envOf d.name d.scope L f cd)) (envOf d.name d.scope L f cd) h₀ noMd [(p, V₁), (q, V₂)] noX (execs d.body (envOf d.name d.scope L f cd)) V) : CallOk prog w A defs names d [V₁, V₂] V := by
  intro s av f vs ho hf hG hvs E Q hq
  obtain ⟨c', o, pm, doc, h1, h2, h3⟩ := hf
  cases hvs with | cons hv r => cases r with | cons hu r => cases r with | nil =>
  rename_i v u
  obtain ⟨N, mg, mb, consts, objs, G⟩ := hG
  refine wpAny_call (call_plain_ret hroom h1 h2 G.nolimit h3 (hbind _ _ _ _ _) (by intro x hx; simp at hx; rcases hx with rfl | rfl <;> assumption) (fun h₁ F => ?_) hco hgen hk hcell)
  have k : Kp s.heap h₁ := F.keep
  refine hbody _ _ _ _ ⟨hk, rfl, rfl, hh, ⟨N, mg, mb, consts, objs, G⟩⟩ { s with heap := h₁, toks := _ } av (fun _ h => h.elim) (ho.up k) (frame_of F fun x W hx => ?_) trivial _ _ fun v' s' hv' hk' mv => ?_
  · by_cases hxp : x = p
    · subst hxp
      rw [List.lookup_cons_self] at hx
      obtain rfl := Option.some.inj hx
      exact ⟨v, V₁.up hv (Kp.sqk k), hloc, by simp [List.lookup_cons, show (x == q) = false by simpa using hpq]⟩
    · rw [List.lookup_cons, show (x == p) = false by simpa using hxp] at hx
      by_cases hxq : x = q
      · subst hxq
        rw [List.lookup_cons_self] at hx
        obtain rfl := Option.some.inj hx
        exact ⟨u, V₂.up hu (Kp.sqk k), hloc', by simp⟩
      · rw [List.lookup_cons, show (x == q) = false by simpa using hxq] at hx; simp at hx
  · obtain ⟨h2, t2, rfl, _⟩ := mv
    exact hq v' _ hv' (Kps.of hk')
end
end Mine

end
section
namespace Mine

section
variable {prog : Program} {w : World} {A : Around} {s : Shared} {av : Addr → Prop}

-- items
theorem op_itemL {value slice : Expr} {Vs : List VP} {V : VP} {a b : Value} {k : Int} (ha : (VList Vs).P av s.heap a) (hb : (VInt k).P av s.heap b) (h0 : 0 ≤ k) (hk : k < 2 ^ 63) (hV : Vs[k.toNat]? = some V)
    (hs : ∀ o i, subscripted slice false o i = operate [o, i] (getItem o i)) : Op prog w A (subscriptTail value slice a b) s (V.P av) := by
  obtain ⟨l, vs, rfl, _, hl, hi⟩ := ha
  obtain ⟨t, rfl⟩ := hb
  obtain ⟨v, hv, hp⟩ := Paired.get hi hV
  exact fun E Q hq => tail_any hl.typeIs slot_list_getitem.lookup (wpAny_getItem_list hl h0 hk (by simpa using hv) (hq _ _ hp (Kps.refl _))) (hs _ _)
theorem op_itemLneg {value slice : Expr} {Vs : List VP} {V : VP} {a b : Value} {k : Int} (ha : (VList Vs).P av s.heap a) (hb : (VInt k).P av s.heap b) (h0 : k < 0) (h1 : -(Vs.length : Int) ≤ k) (hk : -(2 ^ 63) ≤ k) (hV : Vs[(k + Vs.length).toNat]? = some V)
    (hs : ∀ o i, subscripted slice false o i = operate [o, i] (getItem o i)) : Op prog w A (subscriptTail value slice a b) s (V.P av) := by
  obtain ⟨l, vs, rfl, _, hl, hi⟩ := ha
  obtain ⟨t, rfl⟩ := hb
  obtain ⟨v, hv, hp⟩ := Paired.get hi hV
  have e : vs.toArray.size = Vs.length := by rw [List.size_toArray]; exact hi.length
  exact fun E Q hq => tail_any hl.typeIs slot_list_getitem.lookup (wpAny_getItem_list_neg (x := v) hl h0 (by rw [e]; exact h1) hk (by rw [e]; simpa using hv) (hq _ _ hp (Kps.refl _))) (hs _ _)
theorem op_itemT {value slice : Expr} {Vs : List VP} {V : VP} {a b : Value} {k : Int} (ha : (VTup Vs).P av s.heap a) (hb : (VInt k).P av s.heap b) (h0 : 0 ≤ k) (hk : k < 2 ^ 63) (hV : Vs[k.toNat]? = some V)
    (hs : ∀ o i, subscripted slice false o i = operate [o, i] (getItem o i)) : Op prog w A (subscriptTail value slice a b) s (V.P av) := by
  obtain ⟨l, vs, rfl, _, hl, hi⟩ := ha
  obtain ⟨t, rfl⟩ := hb
  obtain ⟨v, hv, hp⟩ := Paired.get hi hV
  have hlt : k.toNat < vs.length := by
    rcases Nat.lt_or_ge k.toNat vs.length with h | h
    · exact h
    · rw [List.getElem?_eq_none h] at hv; cases hv
  exact fun E Q hq => item_tupleT hl (by omega) hk (seqIndex_of h0 (by omega)) hv (hq _ _ hp (Kps.refl _)) (hs _ _)
/-- the letter at a place -/
theorem op_itemS {value slice : Expr} {x : Str} {a b : Value} {k : Int} {c : Nat} (ha : (VStr x).P av s.heap a) (hb : (VInt k).P av s.heap b) (hk : fitsSsize k = true) (hc : Txt.charAt x k = some c)
    (hs : ∀ o i, subscripted slice false o i = operate [o, i] (getItem o i)) : Op prog w A (subscriptTail value slice a b) s ((VStr ⟨#[c]⟩).P av) := by
  obtain ⟨t, rfl⟩ := ha
  obtain ⟨u, rfl⟩ := hb
  exact fun E Q hq => tail_any (typeIs_str _ _ _) PySem.F.slot_str_getitem.lookup (SB.getItem hk (by rw [hc]; rfl) (hq _ _ ⟨_, by unfold Txt.item; rw [hc]; rfl⟩ (Kps.tok _))) (hs _ _)

-- texts
theorem op_mulSI {x : Str} {n : Int} {a b : Value} (hok : MulOk x n) (ha : (VStr x).P av s.heap a) (hb : (VInt n).P av s.heap b) : Op prog w A (binaryOp .Mult a b) s ((VStr (Txt.mul x n)).P av) := by
  obtain ⟨t, rfl⟩ := ha; obtain ⟨u, rfl⟩ := hb
  exact fun E Q hq => SB.mul hok fun t' k => hq _ _ ⟨_, rfl⟩ (Kps.tok _)
theorem op_mulIS {x : Str} {n : Int} {a b : Value} (hok : MulOk x n) (ha : (VInt n).P av s.heap a) (hb : (VStr x).P av s.heap b) : Op prog w A (binaryOp .Mult a b) s ((VStr (Txt.mul x n)).P av) := by
  obtain ⟨u, rfl⟩ := ha; obtain ⟨t, rfl⟩ := hb
  intro E Q hq
  have h : ∀ t' k, Q (.str (Txt.mul x n) t') { s with toks := k } := fun t' k => hq _ _ ⟨_, rfl⟩ (Kps.tok _)
  have post : (if n < 1 then Made.str Str.empty else if (n == 1 || x.length == 0) = true then Made.val (.str x t) else Made.str ⟨(List.replicate n.toNat x.cps).foldl (· ++ ·) #[]⟩).post Q s := by
    unfold Txt.mul at h
    by_cases h1 : n < 1
    · rw [if_pos h1]; have h' := h s.toks (s.toks + 1); rw [if_pos h1] at h'; exact ⟨by decide, h'⟩
    · rw [if_neg h1]
      refine post_val_or_made (fun hc => fits_reps (hok.2.2 h1 (by simpa using hc))) fun t' k => ?_
      have h' := h t' k; rw [if_neg h1] at h'; exact h'
  exact lm_binaryOp_repeat_right (T := "str") (U := "int") (by decide) (fun s' => typeIs_int s' n u) (typeIs_str s x t) PySem.F.fills_int_mul noFill_str_mul PySem.F.slot_int_mul lm_noRepeat_int repeat_str PySem.F.slot_int_index.lookup
    (call_gives PySem.F.slot_int_mul (typeIs_int s n u) PySem.F.entry_int_mul (PySem.F.args_int_mul_2 _ _) (AutoIntG3.int___mul___int_str_0 n u x t)
      ⟨rfl, typeIs_str s x t, call_gives PySem.F.slot_str_mul (typeIs_str s x t) PySem.F.entry_str_mul (PySem.F.args_str_mul_2 _ _) (gives_str_mul x n t u hok.1 hok.2.1 hok.2.2) post⟩)

-- lists
theorem op_addL {Vs Ws : List VP} {a b : Value} (hsz : Vs.length + Ws.length ≤ sizeLine) (ho : Off av s.heap) (ha : (VList Vs).P av s.heap a) (hb : (VList Ws).P av s.heap b) : Op prog w A (binaryOp .Add a b) s ((VList (Vs ++ Ws)).P av) := by
  obtain ⟨l, vs, rfl, _, hl, hi⟩ := ha
  obtain ⟨m, us, rfl, _, hm, hj⟩ := hb
  intro E Q hq
  obtain ⟨⟨cls, dd, data, sl⟩, h1, hc, n, hd⟩ := id hl
  obtain ⟨⟨cls2, dd2, data2, sl2⟩, h2, hc2, n2, hd2⟩ := id hm
  simp only at hc hd hc2 hd2
  subst hc hd hc2 hd2
  have e : vs.toArray ++ us.toArray = (vs ++ us).toArray := by simp
  have hz : vs.toArray.size + us.toArray.size ≤ sizeLine := by rw [List.size_toArray, List.size_toArray, hi.length, hj.length]; exact hsz
  refine concat_meets ⟨_, h1, rfl⟩ ⟨_, h2, rfl⟩ noFill_list_add seq_list_add PySem.F.slot_list_add PySem.F.entry_list_add (PySem.F.args_list_add_2 _ _) (list_addW l m vs.toArray us.toArray n n2 dd dd2 sl sl2 hz) ⟨h1, h2, ?_⟩
  rw [e]
  exact hq _ _ ⟨s.heap.objs.size, vs ++ us, rfl, ho.new, ⟨_, Heap.get?_push_size _ rfl, rfl, 0, rfl⟩, (Paired.append hi hj |> fun (x : Items av s.heap (vs ++ us) (Vs ++ Ws)) => x.up (Kps.push _ s.toks).sqk)⟩ (Kps.push _ _)

theorem strsAre_of {h : Heap} : ∀ {vs : List Value} {xs : List Str}, Items av h vs (xs.map VStr) → StrsAre vs xs
  | _, [], .nil => .nil
  | _, x :: xs, .cons hv r => by obtain ⟨t, rfl⟩ := hv; exact .cons _ _ (strsAre_of r)
theorem strs_of {h : Heap} : ∀ {vs : List Value} {xs : List Str}, StrsAre vs xs → Items av h vs (xs.map VStr)
  | _, _, .nil => .nil
  | _, _, .cons x t r => .cons ⟨t, rfl⟩ (strs_of r)
theorem strValues_of {h : Heap} : ∀ {vs : List Value} {xs : List Str}, Items av h vs (xs.map VStr) → ∃ l : List (Str × Tok), vs = strValues l ∧ l.map (·.1) = xs
  | _, [], .nil => ⟨[], rfl, rfl⟩
  | _, x :: xs, .cons hv r => by
    obtain ⟨t, rfl⟩ := hv
    obtain ⟨l, rfl, e⟩ := strValues_of r
    exact ⟨(x, t) :: l, rfl, by simp [e]⟩
theorem items_strValues {h : Heap} : ∀ (l : List (Str × Tok)), Items av h (strValues l) ((l.map (·.1)).map VStr)
  | [] => .nil
  | (x, t) :: l => .cons ⟨t, rfl⟩ (items_strValues l)
theorem intsAre_of {h : Heap} : ∀ {vs : List Value} {xs : List Int}, Items av h vs (xs.map VInt) → IntsAre vs xs
  | _, [], .nil => .nil
  | _, x :: xs, .cons hv r => by obtain ⟨t, rfl⟩ := hv; exact .cons _ _ (intsAre_of r)
theorem ints_of {h : Heap} : ∀ {vs : List Value} {xs : List Int}, IntsAre vs xs → Items av h vs (xs.map VInt)
  | _, _, .nil => .nil
  | _, _, .cons x t r => .cons ⟨t, rfl⟩ (ints_of r)

/-- sorted, of texts: ys is the rising order of xs -/
theorem op_sorted {xs ys : List Str} {vs : List Value} (hx : Items av s.heap vs [VList (xs.map VStr)]) (h64 : xs.length < 64) (ho : Off av s.heap) (hys : ∀ ys', ys'.Perm xs → sortedS ys' = true → ys' = ys) :
    Op prog w A (call (.builtin "sorted") vs) s ((VList (ys.map VStr)).P av) := by
  cases hx with | cons hx r => cases r with | nil =>
  obtain ⟨l, us, rfl, _, hl, hi⟩ := hx
  have hlen : us.length < 64 := by rw [hi.length, List.length_map]; exact h64
  intro E Q hq
  refine sorted_strs hl (strsAre_of hi) hlen fun out ss' h1 h2 h3 => ?_
  obtain rfl := hys ss' h2 h3
  obtain ⟨e, he⟩ := sortedAll_at s.heap us out
  have k : Kp s.heap (sortedAll s.heap us out) := fun _ _ => sortedAll_old
  have hn : s.heap.get? (s.heap.objs.size + 1) = none := by
    cases e : s.heap.get? (s.heap.objs.size + 1) with
    | none => rfl
    | some o => exact absurd (Heap.lt_size e) (Nat.not_lt.mpr (Nat.le_succ _))
  refine hq _ _ ⟨s.heap.objs.size + 1, out.toList, rfl, Off.fresh ho hn, ?_, strs_of h1⟩ (Kps.of k)
  exact ⟨_, he, rfl, e, rfl⟩

/-- not in a list of texts -/
theorem op_notinL {x : Str} {xs : List Str} {a b : Value} (ha : (VStr x).P av s.heap a) (hb : (VList (xs.map VStr)).P av s.heap b) : Op prog w A (compareOp .NotIn a b) s ((VBool (!xs.any fun y => y.cps.toList == x.cps.toList)).P av) := by
  obtain ⟨t, rfl⟩ := ha
  obtain ⟨l, us, rfl, _, hl, hi⟩ := hb
  obtain ⟨l', rfl, hl'⟩ := strValues_of hi
  intro E Q hq
  refine SeqInW.notIn_listW (fun v => match v with | .str y _ => y.cps.toList == x.cps.toList | _ => false) (fun y hy => ?_) hl ?_
  · have hy' : y ∈ strValues l' := by simpa using hy
    simp only [strValues, List.mem_map] at hy'
    obtain ⟨p, _, rfl⟩ := hy'
    exact SeqRoads2.EqGives.str _ _ _ _
  · refine hq _ _ ?_ (Kps.refl _)
    show Value.bool _ = Value.bool _
    rw [← hl', ← Array.any_toList]
    simp [strValues, List.any_map, Function.comp_def]

theorem preSum_ints {val : Nat → Int} : ∀ (xs : List Int), (∀ i x, xs[i]? = some x → val i = x) → ∀ n, n ≤ xs.length → preSum val n = (xs.take n).sum
  | xs, h, 0, _ => by simp [preSum]
  | xs, h, n + 1, hn => by
    obtain ⟨x, hx⟩ := get_of_lt (l := xs) (i := n) (by omega)
    rw [preSum, preSum_ints xs h n (by omega), h n x hx, List.take_add_one, hx]
    simp
/-- sum, of ints -/
theorem op_sum {xs : List Int} {vs : List Value} (hh : A.handled = none) (hx : Items av s.heap vs [VList (xs.map VInt)]) : Op prog w A (call (.builtin "sum") vs) s ((VInt xs.sum).P av) := by
  cases hx with | cons hx r => cases r with | nil =>
  obtain ⟨l, us, rfl, _, hl, hi⟩ := hx
  intro E Q hq
  have hlt : l < s.heap.objs.size := by obtain ⟨o, e, _⟩ := id hl; exact Heap.lt_size e
  have W := Walks.list (prog := prog) (w := w) (A := A.in1) hh s.heap.objs.size l (Nat.ne_of_lt hlt) us.toArray
  have hlen : us.toArray.size = xs.length := by rw [List.size_toArray, hi.length, List.length_map]
  refine call_sum_walkAnyS (wpAny_pyIter_list hl ⟨s.heap.objs.size, _, _, _, _, _, _, (fun i => xs.getD i 0), rfl, W.toS, ⟨⟨_, Heap.get?_push_size _ rfl, rfl, rfl⟩, hl.push _⟩, ?_, ?_, ?_⟩)
  · intro b hb
    show b < (s.heap.push _).objs.size
    rw [Heap.size_push]
    rcases List.mem_cons.mp hb with rfl | hb
    · exact Nat.lt_succ_self _
    · rw [List.mem_singleton.mp hb]; exact Nat.lt_succ_of_lt hlt
  · intro i v hP
    obtain ⟨V, hV, hp⟩ := Paired.get' hi (i := i) (a := v) (by simpa using hP)
    rw [List.getElem?_map] at hV
    cases hx : xs[i]? with
    | none => rw [hx] at hV; cases hV
    | some x =>
      rw [hx] at hV; cases hV
      obtain ⟨t, rfl⟩ := hp
      exact ⟨t, by simp [List.getD, hx]⟩
  · rintro s' t' ⟨m1, m2, m3, m4, m5⟩
    have e : preSum (fun i => xs.getD i 0) us.toArray.size = xs.sum := by
      rw [hlen, preSum_ints xs (fun i x hx => by simp [List.getD, hx]) _ (Nat.le_refl _), List.take_length]
    have hk : Kps s s' := by
      refine ⟨s'.heap, s'.toks, ?_, fun b o e => m1 b o (fun hm => by rw [List.mem_singleton.mp hm] at e; exact absurd (Heap.lt_size e) (Nat.lt_irrefl _)) (Heap.get?_push_of_some _ e)⟩
      obtain ⟨a1, a2, a3, a4, a5⟩ := s'
      obtain ⟨b1, b2, b3, b4, b5⟩ := s
      simp only at m2 m3 m4
      subst m2 m3 m4
      rfl
    exact hq _ _ ⟨t', by rw [e]⟩ hk
end
end Mine

end
section
namespace Mine

def PartV : Option Int → Value → Prop
  | none, v => v = .none
  | some i, v => ∃ t, v = .int i t
theorem PartV.is {k : Option Int} {v : Value} (h : PartV k v) : IsPart v k := by
  cases k with
  | none => obtain rfl : v = .none := h; exact .none
  | some i => obtain ⟨t, rfl⟩ := h; exact .int i t
theorem PartV.at {k : Option Int} {v : Value} (h : PartV k v) : ∃ l : Option (Int × Tok), v = partValue l ∧ l.map (·.1) = k := by
  cases k with
  | none => obtain rfl : v = .none := h; exact ⟨none, rfl, rfl⟩
  | some i => obtain ⟨t, rfl⟩ := h; exact ⟨some (i, t), rfl, rfl⟩

/-- the picked items of a slice -/
def pickL {α : Type} (xs : List α) (lo hi st : Option Int) : List α :=
  (sliceRange (sliceBounds lo hi st xs.length).1 (sliceBounds lo hi st xs.length).2.1 (sliceBounds lo hi st xs.length).2.2).filterMap (xs[·]?)
theorem pickL_map {α β : Type} (f : α → β) (xs : List α) (lo hi st : Option Int) : pickL (xs.map f) lo hi st = (pickL xs lo hi st).map f := by
  unfold pickL
  rw [List.length_map, List.map_filterMap]
  congr 1
  funext i
  simp
theorem Paired.pick {α β : Type} {F : α → β → Prop} {l : List α} {m : List β} (h : Paired F l m) : ∀ idx : List Nat, Paired F (idx.filterMap (l[·]?)) (idx.filterMap (m[·]?))
  | [] => .nil
  | i :: r => by
    have ih := Paired.pick h r
    cases hb : m[i]? with
    | none =>
      have ha : l[i]? = none := by
        rw [List.getElem?_eq_none_iff] at hb ⊢
        rw [h.length]; exact hb
      simpa [List.filterMap_cons, ha, hb] using ih
    | some b =>
      obtain ⟨a, ha, hF⟩ := Paired.get h hb
      simpa [List.filterMap_cons, ha, hb] using Paired.cons hF ih
theorem slicePick_toList (vs : List Value) (lo hi st : Option Int) : (slicePick vs.toArray lo hi st) = (pickL vs lo hi st).toArray := by
  unfold slicePick pickL
  simp
theorem Items.pick {av : Addr → Prop} {h : Heap} {vs : List Value} {Vs : List VP} (x : Items av h vs Vs) (lo hi st : Option Int) : Items av h (pickL vs lo hi st) (pickL Vs lo hi st) := by
  unfold pickL
  rw [x.length]
  exact Paired.pick x _

theorem charAt_nat {x : Str} {i : Nat} {c : Nat} (h : x.cps.toList[i]? = some c) : Txt.charAt x (i : Int) = some c := by
  have hlt : i < x.cps.size := by
    rcases Nat.lt_or_ge i x.cps.toList.length with h' | h'
    · simpa using h'
    · rw [List.getElem?_eq_none h'] at h; cases h
  unfold Txt.charAt
  rw [seqIndex_of (by omega) (by show ((i : Nat) : Int) < (x.cps.size : Nat); omega)]
  simpa using h

section
variable {prog : Program} {w : World} {A : Around} {env : Env} {G : HP}

abbrev EvPart (prog : Program) (w : World) (A : Around) (env : Env) (G : HP) (e : Option Expr) (k : Option Int) : Prop := Tr prog w A G (evalPart e env) (fun _ _ v => PartV k v)
theorem ep_none : EvPart prog w A env G none none := fun s av _ _ E Q hq => evalPart_none_step (hq _ _ rfl (Kps.refl _))
theorem ep_some {e : Expr} {i : Int} (h : Ev prog w A env G e (VInt i)) : EvPart prog w A env G (some e) (some i) := fun s av ho hg E Q hq => evalPart_some_step (h s av ho hg E Q fun y s' hy k => hq y s' hy k)

theorem ev_slice {value : Expr} {lo hi st : Option Expr} {p pos : Pos} {V₁ V : VP} {kl ku ks : Option Int} (h₁ : Ev prog w A env G value V₁) (hl : EvPart prog w A env G lo kl) (hu : EvPart prog w A env G hi ku) (hs : EvPart prog w A env G st ks)
    (hop : ∀ a vl vu vs sl (s : Shared) av, Off av s.heap → G.P av s.heap → V₁.P av s.heap a → PartV kl vl → PartV ku vu → PartV ks vs → s.heap.IsSliceOf sl vl vu vs → Op prog w A (subscriptTail value (.Slice lo hi st p) a (.ref sl)) s (V.P av)) :
    Ev prog w A env G (.Subscript value (.Slice lo hi st p) pos) V := by
  intro s av ho hg E Q hq
  refine Subscript_ (h₁ s av ho hg E _ fun a s₁ ha k₁ => wpAny_Slice (hl s₁ av (ho.up k₁.kp) (G.up hg k₁.kp) E _ fun vl s₂ hvl k₂ => hu s₂ av (ho.up (k₁.trans k₂).kp) (G.up hg (k₁.trans k₂).kp) E _ fun vu s₃ hvu k₃ =>
    hs s₃ av (ho.up ((k₁.trans k₂).trans k₃).kp) (G.up hg ((k₁.trans k₂).trans k₃).kp) E _ fun vs s₄ hvs k₄ => ?_))
  have k := ((k₁.trans k₂).trans k₃).trans k₄
  have k' : Kps s { s₄ with heap := s₄.heap.push { cls := .type "slice", data := .fields #[vl, vu, vs] } } := k.trans (Kps.push _ s₄.toks)
  exact hop a vl vu vs s₄.heap.objs.size _ av (ho.up k'.kp) (G.up hg k'.kp) (V₁.up ha (((k₂.trans k₃).trans k₄).trans (Kps.push _ s₄.toks)).sqk) hvl hvu hvs (Heap.IsSliceOf.new ..) E Q fun y s₅ hy k₅ => hq y s₅ hy (k'.trans k₅)
end

section
variable {prog : Program} {w : World} {A : Around} {s : Shared} {av : Addr → Prop}

theorem op_sliceL {value : Expr} {lo hi st : Option Expr} {p : Pos} {Vs : List VP} {kl ku ks : Option Int} {a vl vu vs : Value} {sl : Addr} (ho : Off av s.heap) (ha : (VList Vs).P av s.heap a) (hvl : PartV kl vl) (hvu : PartV ku vu) (hvs : PartV ks vs)
    (hsl : s.heap.IsSliceOf sl vl vu vs) (h0 : ks ≠ some 0) (hsz : Vs.length ≤ sizeLine) : Op prog w A (subscriptTail value (.Slice lo hi st p) a (.ref sl)) s ((VList (pickL Vs kl ku ks)).P av) := by
  obtain ⟨l, us, rfl, _, hl, hi'⟩ := ha
  intro E Q hq
  refine tail_any (ops := if st.isNone then [.ref sl, .ref l] else [.ref l, .ref sl]) hl.typeIs slot_list_getitem.lookup (wpAny_getItem_list_slice hl hsl hvl.is hvu.is hvs.is h0 ?_ (by rw [List.size_toArray, hi'.length]; exact hsz)) (by cases st <;> rfl)
  rw [slicePick_toList]
  exact hq _ _ ⟨s.heap.objs.size, _, rfl, ho.new, ⟨_, Heap.get?_push_size _ rfl, rfl, 0, rfl⟩, (hi'.pick kl ku ks).up (Kps.push _ s.toks).sqk⟩ (Kps.push _ _)

theorem op_sliceS {value : Expr} {lo hi : Option Expr} {p : Pos} {x : Str} {kl ku : Option Int} {a vl vu vs : Value} {sl : Addr} (ha : (VStr x).P av s.heap a) (hvl : PartV kl vl) (hvu : PartV ku vu) (hvs : PartV none vs)
    (hsl : s.heap.IsSliceOf sl vl vu vs) (hsz : x.length ≤ sizeLine) : Op prog w A (subscriptTail value (.Slice lo hi none p) a (.ref sl)) s ((VStr (Txt.slice x kl ku)).P av) := by
  obtain ⟨t, rfl⟩ := ha
  obtain ⟨l, rfl, rfl⟩ := hvl.at
  obtain ⟨u, rfl, rfl⟩ := hvu.at
  obtain rfl : vs = .none := hvs
  intro E Q hq
  refine tail_any (typeIs_str _ _ _) PySem.F.slot_str_getitem.lookup (wpAny_getItem_str_slice (l := l) (u := u) (st := none) hsl rfl ?_) rfl
  exact post_val_or_str ⟨Nat.le_trans (Txt.slice_le x _ _) hsz, fun t' k => hq _ _ ⟨t', rfl⟩ (Kps.tok _)⟩

theorem op_sliceT {value : Expr} {lo hi : Option Expr} {p : Pos} {Vs : List VP} {n : Nat} {a vl vu vs : Value} {sl : Addr} (ho : Off av s.heap) (ha : (VTup Vs).P av s.heap a) (hvl : PartV (some (n : Int)) vl) (hvu : PartV none vu) (hvs : PartV none vs)
    (hsl : s.heap.IsSliceOf sl vl vu vs) (h1 : 1 ≤ n) (hn : n ≤ Vs.length) (hsz : Vs.length ≤ sizeLine) : Op prog w A (subscriptTail value (.Slice lo hi none p) a (.ref sl)) s ((VTup (Vs.drop n)).P av) := by
  obtain ⟨l, us, rfl, _, hl, hi'⟩ := ha
  obtain ⟨t, rfl⟩ := hvl
  obtain rfl : vu = .none := hvu
  obtain rfl : vs = .none := hvs
  intro E Q hq
  have e : us.toArray.size = Vs.length := by rw [List.size_toArray, hi'.length]
  refine tail_any hl.typeIs slot_tuple_getitem.lookup (getItem_tuple_from (a := n) hl hsl h1 (by rw [e]; exact hn) ?_ (by rw [e]; exact hsz)) rfl
  exact hq _ _ ⟨s.heap.objs.size, us.drop n, rfl, ho.new, ⟨_, Heap.get?_push_size _ rfl, rfl, 0, by simp⟩, (Paired.drop n hi' |> fun (x : Items av s.heap (us.drop n) (Vs.drop n)) => x.up (Kps.push _ s.toks).sqk)⟩ (Kps.push _ _)
end

section
variable {prog : Program} {w : World} {A : Around} {env : Env} {G : HP}

/-- sep.join(list of texts) -/
theorem ev_join {o e : Expr} {apos pos : Pos} {sep : Str} {xs : List Str} (h₁ : Ev prog w A env G o (VStr sep)) (h₂ : Ev prog w A env G e (VList (xs.map VStr))) (hok : JoinOk sep xs = true)
    (hbase : attributeBase o "join" env (eval o env) = eval o env := by kernel_rfl!) (hs : starEach [e] env = [(false, eval e env)] := by kernel_rfl!) (hline : (apos.endLine == pos.line) = true := by kernel_rfl!) :
    Ev prog w A env G (.Call (.Attribute o "join" apos) [e] [] pos) (VStr (Txt.join sep xs)) := by
  intro s av ho hg E Q hq
  refine Call_method1 hbase hs hline (h₁ s av ho hg E _ fun ov s₁ hov k₁ => ?_)
  obtain ⟨t, rfl⟩ := hov
  refine SB.join (h₂ s₁ av (ho.up k₁.kp) (G.up hg k₁.kp) E _ fun v s₂ hv k₂ => ?_)
  obtain ⟨D, us, rfl, _, hl, hi⟩ := hv
  obtain ⟨l, rfl, hl'⟩ := strValues_of hi
  exact ⟨D, l, rfl, hl, xs, hl', hok, fun t' k => hq _ _ ⟨t', rfl⟩ ((k₁.trans k₂).trans (Kps.tok _))⟩
/-- x.split(y) -/
theorem ev_split {o e : Expr} {apos pos : Pos} {x y : Str} (h₁ : Ev prog w A env G o (VStr x)) (h₂ : Ev prog w A env G e (VStr y)) (hy : (y.length == 0) = false) (hx : x.length ≤ sizeLine)
    (hn : (Builtin.Str.partsBetween x (Builtin.Str.occurrences x y 0 x.length (x.length + 1)) y.length).length ≤ sizeLine)
    (hbase : attributeBase o "split" env (eval o env) = eval o env := by kernel_rfl!) (hs : starEach [e] env = [(false, eval e env)] := by kernel_rfl!) (hline : (apos.endLine == pos.line) = true := by kernel_rfl!) :
    Ev prog w A env G (.Call (.Attribute o "split" apos) [e] [] pos) (VList ((Txt.split x y).map VStr)) := by
  intro s av ho hg E Q hq
  refine Call_method1 hbase hs hline (h₁ s av ho hg E _ fun ov s₁ hov k₁ => ?_)
  obtain ⟨t, rfl⟩ := hov
  refine ⟨"str", _, PySem.F.plainAttrs_str, PySem.F.slot_str_split, PySem.F.type_str_split, typeIs_str _ _ _, (fun _ e => nomatch e),
    method1_meets PySem.F.slot_str_split PySem.F.entry_str_split (h₂ s₁ av (ho.up k₁.kp) (G.up hg k₁.kp) E _ fun v s₂ hv k₂ => ?_)⟩
  obtain ⟨u, rfl⟩ := hv
  have k := k₁.trans k₂
  have fin : ∀ (l : List (Str × Tok)) (tk : Nat), l.map (·.1) = Txt.split x y → Q (.ref s₂.heap.objs.size) { s₂ with heap := s₂.heap.push { cls := .type "list", data := .seq (strValues l).toArray }, toks := tk } := fun l tk e =>
    hq _ _ ⟨s₂.heap.objs.size, strValues l, rfl, (ho.up k.kp).new, ⟨_, Heap.get?_push_size _ rfl, rfl, 0, rfl⟩, e ▸ items_strValues l⟩ (k.trans (Kps.push _ _))
  refine ⟨typeIs_str _ _ _, PySem.F.args_str_split_2 _ _, ?_⟩
  cases h1 : (decide (x.length < y.length) || decide (Builtin.Str.strKind x < Builtin.Str.strKind y))
  · cases hf : (Builtin.Str.occurrences x y 0 x.length (x.length + 1)).isEmpty
    · refine ⟨_, meets_str_split_sep x y t u h1 hy hf hx hn, ?_⟩
      show wants Q E _ { s₂ with toks := _, heap := s₂.heap.push { cls := .type "list", data := .seq (strsFrom s₂.toks (Builtin.Str.partsBetween x (Builtin.Str.occurrences x y 0 x.length (x.length + 1)) y.length)).toArray } }
      rw [strsFrom_eq]
      exact fin (numbered s₂.toks _) _ ((numbered_texts _ _).trans ((if_neg (ne_true_of_eq_false h1)).trans (if_neg (ne_true_of_eq_false hf))).symm)
    · exact ⟨_, meets_str_split_not_found x y t u h1 hy hf, fin [(x, t)] s₂.toks ((if_neg (ne_true_of_eq_false h1)).trans (if_pos hf)).symm⟩
  · exact ⟨_, meets_str_split_cannot_occur x y t u h1, fin [(x, t)] s₂.toks (if_pos h1).symm⟩
theorem ev_find {o e : Expr} {apos pos : Pos} {x y : Str} (h₁ : Ev prog w A env G o (VStr x)) (h₂ : Ev prog w A env G e (VStr y))
    (hbase : attributeBase o "find" env (eval o env) = eval o env := by kernel_rfl!) (hs : starEach [e] env = [(false, eval e env)] := by kernel_rfl!) (hline : (apos.endLine == pos.line) = true := by kernel_rfl!) :
    Ev prog w A env G (.Call (.Attribute o "find" apos) [e] [] pos) (VInt (Txt.find x y)) := by
  intro s av ho hg E Q hq
  refine Call_method1 hbase hs hline (h₁ s av ho hg E _ fun ov s₁ hov k₁ => ?_)
  obtain ⟨t, rfl⟩ := hov
  refine SB.find (h₂ s₁ av (ho.up k₁.kp) (G.up hg k₁.kp) E _ fun v s₂ hv k₂ => ?_)
  obtain ⟨u, rfl⟩ := hv
  exact ⟨y, u, rfl, hq _ _ ⟨_, rfl⟩ ((k₁.trans k₂).trans (Kps.tok _))⟩
theorem ev_count {o e : Expr} {apos pos : Pos} {x y : Str} (h₁ : Ev prog w A env G o (VStr x)) (h₂ : Ev prog w A env G e (VStr y))
    (hbase : attributeBase o "count" env (eval o env) = eval o env := by kernel_rfl!) (hs : starEach [e] env = [(false, eval e env)] := by kernel_rfl!) (hline : (apos.endLine == pos.line) = true := by kernel_rfl!) :
    Ev prog w A env G (.Call (.Attribute o "count" apos) [e] [] pos) (VInt (Txt.count x y)) := by
  intro s av ho hg E Q hq
  refine Call_method1 hbase hs hline (h₁ s av ho hg E _ fun ov s₁ hov k₁ => ?_)
  obtain ⟨t, rfl⟩ := hov
  refine SB.count (h₂ s₁ av (ho.up k₁.kp) (G.up hg k₁.kp) E _ fun v s₂ hv k₂ => ?_)
  obtain ⟨u, rfl⟩ := hv
  exact ⟨y, u, rfl, hq _ _ ⟨_, rfl⟩ ((k₁.trans k₂).trans (Kps.tok _))⟩
end
end Mine

end
section
namespace Mine

section
variable {prog : Program} {w : World} {A : Around} {env : Env} {h₀ : Heap} {md : Addr → Prop} {ρ : Locs} {X X' : Heap → Prop} {V : VP}

/-- r.append(e), r a list that may change -/
theorem ht_append {r : Str} {np apos pos epos : Pos} {elt : Expr} {R : Addr} {hX : OnMd md X} (f : Fx env h₀ md) (hr : ρ.lookup r = some (VRef R)) (hR : md R) (he : Ev prog w A env (frHP env h₀ ρ md X hX) elt V)
    (hpl : ∀ h, X h → ∃ vs, h.PlainList R vs ∧ vs.size ≤ sizeLine)
    (hnew : ∀ h h' vs v av, X h → h.PlainList R vs → V.P av h v → h'.PlainList R (vs.push v) → (∀ b o, b ≠ R → h.get? b = some o → h'.get? b = some o) → X' h')
    (hd : (r == ("__debug__" : Str)) = false := by decide) (hbase : attributeBase (.Name r np) "append" env (eval (.Name r np) env) = eval (.Name r np) env := by kernel_rfl!)
    (hfew : ((backTo pos (starEach [elt] env)).all (fun x => !x.1) && (backToKw pos (keywordEach [] env)).all (fun x => x.1.isSome)
      && decide (([elt] : List Expr).length + ([] : List Keyword).length + (if ([] : List Keyword).isEmpty then 0 else 1) < 30)) = true := by kernel_rfl!)
    (hline : (apos.endLine == pos.line) = true := by kernel_rfl!) (htrees : backTo pos (starEach [elt] env) = [(false, eval elt env)] := by kernel_rfl!)
    (hi : interactive env = false := by kernel_rfl!) (hs : swapsWith (.Call (.Attribute (.Name r np) "append" apos) [elt] [] pos) none epos.line env = pure false := by kernel_rfl!) :
    HT prog w A env h₀ md ρ X (exec (.Expr (.Call (.Attribute (.Name r np) "append" apos) [elt] [] pos) epos) env) ρ X' := by
  intro s av hm ho hF hXs E Q hq
  refine wpAny_Expr (wpAny_Call_append hbase hfew hline htrees (ev_name (X := X) (hX := hX) f.kind hr hd s av ho ⟨hF, hXs, hm⟩ E _ fun ov s₁ hov k₁ => ?_)) hi hs
  obtain rfl : ov = .ref R := hov
  have hX₁ := hX.kp _ _ hXs k₁.kp
  obtain ⟨vs, hvs, hvz⟩ := hpl _ hX₁
  obtain ⟨n₁, e₁⟩ := id hvs
  refine ⟨R, vs, rfl, ⟨_, n₁, e₁, rfl, rfl, rfl⟩, ?_⟩
  refine he s₁ av (ho.up k₁.kp) ⟨hF.up k₁.kp, hX₁, hm⟩ E _ fun y s₂ hy k₂ => ?_
  have k := k₁.trans k₂
  have hX₂ := hX.kp _ _ hXs k.kp
  have hvs₂ : s₂.heap.PlainList R vs := hvs.at fun o e => k₂.kp _ _ e
  refine wpAny_list_append_plain hvs₂ (fun h' hl' hs' => ?_) hvz
  have hk' : ∀ b o, b ≠ R → s₂.heap.get? b = some o → h'.get? b = some o := fun b o hb e => hs'.extBut b o hb e
  refine hq { s₂ with heap := h' } ((hF.up k.kp).step hk' (hm R hR) (f.mdo.loc R hR) (fun n => f.mdo.cell R n hR) (f.mdo.new R hR)) (hnew _ _ vs y av hX₂ hvs₂ hy hl' hk') (fun b hb => ?_)
    (k.mv.trans ⟨h', s₂.toks, rfl, fun b o _ _ hb e => hk' b o (by rintro rfl; exact hb hR) e⟩)
  by_cases hbR : b = R
  · rw [hbR]; obtain ⟨n, e⟩ := hl'; exact ⟨_, e⟩
  · obtain ⟨o, e⟩ := (ho.up k.kp) b hb; exact ⟨o, hk' b o hbR e⟩

/-- a, b = (e, f), stored in the order of the machine -/
theorem ht_assign2 {a b : Str} {elts : List Expr} {k : Nat} {tpos pos : Pos} {e₁ e₂ : Expr} {k₂ : Nat} {vp : Pos} {V₁ V₂ : VP} {hX : OnMd md X} (f : Fx env h₀ md) (hh : A.handled = none)
    (hE : Ev prog w A env (frHP env h₀ ρ md X hX) (.Tuple [e₁, e₂] k₂ vp) (VTup [V₁, V₂]))
    (ha : env.kindOf a = some .local) (hb : env.kindOf b = some .local)
    (hs : swapsWithSole [.Tuple elts k tpos] (.Tuple [e₁, e₂] k₂ vp) pos.line env = pure false := by kernel_rfl!) (hw : swappedStores [.Tuple elts k tpos] (.Tuple [e₁, e₂] k₂ vp) env = pure (some [a, b]) := by kernel_rfl!) :
    HT prog w A env h₀ md ρ X (exec (.Assign [.Tuple elts k tpos] (.Tuple [e₁, e₂] k₂ vp) pos) env) ((a, V₁) :: (b, V₂) :: ρ) X := by
  intro s av hm ho hF hXs E Q hq
  refine Assign_Tuple_swapped (hE s av ho ⟨hF, hXs, hm⟩ E _ fun v s₁ hv k₁ => ?_) hs hw
  obtain ⟨t, vs, rfl, hat, ht, hi⟩ := hv
  cases hi with | cons h1 r => cases r with | cons h2 r => cases r with | nil =>
  rename_i v₁ v₂
  have hn2 : ([a, b] : List Str).length = ([v₁, v₂] : List Value).toArray.size := rfl
  rw [hn2]
  refine PySem.wpAny_unpackItems_tuple hh ht fun h' he => ?_
  have kk : Kp s₁.heap h' := fun b o e => he b o (Nat.ne_of_lt (Heap.lt_size e)) e
  have k' : Kps s { s₁ with heap := h' } := k₁.trans (Kps.of (k := s₁.toks) kk)
  refine assignInOrder_cons ?_
  refine bindName_ (store (s := { s₁ with heap := h' }) f.kind f.cel f.mdo hX (.inl hb) (ho.up k'.kp) (hF.up k'.kp) (hX.kp _ _ hXs k'.kp) (V₂.up h2 (Kp.sqk kk)) fun s₂ hF₂ hX₂ ho₂ mv₂ => ?_)
  refine assignInOrder_cons ?_
  have h1' : V₁.P av s₂.heap v₁ := by
    obtain ⟨h2', t2, e2, k2⟩ := mv₂
    subst e2
    refine V₁.up (V₁.up h1 (Kp.sqk kk)) fun b o hb' ⟨xs, n, hd⟩ e => k2 b o ?_ ?_ (fun h => hb' (hm b h)) e
    · rintro rfl
      obtain ⟨o', es, ep, e', d'⟩ := (hF.up k'.kp).locals
      change h'.get? _ = _ at e'
      change h'.get? _ = _ at e
      rw [e'] at e; cases e; rw [d'] at hd; cases hd
    · intro n' hc
      obtain ⟨v'', o', e', d'⟩ := (hF.up k'.kp).cellAt hc
      change h'.get? _ = _ at e'
      change h'.get? _ = _ at e
      rw [e'] at e; cases e; rw [d'] at hd; cases hd
  refine bindName_ (store f.kind f.cel f.mdo hX (.inl ha) ho₂ hF₂ hX₂ h1' fun s₃ hF₃ hX₃ ho₃ mv₃ => ?_)
  refine assignInOrder_nil ?_
  exact hq s₃ hF₃ hX₃ ho₃ ((k'.mv.trans mv₂).trans mv₃)

/-- a while whose test is known at each turn -/
theorem ht_while {test : Expr} {body : List Stmt} {pos : Pos} {hX : OnMd md X} (ρ : Nat → Locs) (n : Nat) (htt : ∀ i, i < n → Tst prog w A env (frHP env h₀ (ρ i) md X hX) test true) (htf : Tst prog w A env (frHP env h₀ (ρ n) md X hX) test false)
    (hb : ∀ i, i < n → HT prog w A env h₀ md (ρ i) X (execs body env) (ρ (i + 1)) X) : HT prog w A env h₀ md (ρ 0) X (exec (.While test body [] pos) env) (ρ n) X := by
  intro s av hm ho hF hXs E Q hq
  refine wpAny_While (codeAny_whileLoop (fun j s' => ∃ i, i ≤ n ∧ j = n - i ∧ FrameIs env h₀ (ρ i) av s'.heap ∧ X s'.heap ∧ Off av s'.heap ∧ Mv env md s s') ?_ n ⟨0, Nat.zero_le _, rfl, hF, hXs, ho, Mv.refl s⟩)
  rintro j s₁ ⟨i, hi, rfl, hF₁, hX₁, ho₁, mv₁⟩
  by_cases hlt : i < n
  · refine htt i hlt s₁ av ho₁ ⟨hF₁, hX₁, hm⟩ _ _ fun b s₂ hb2 k₂ => ?_
    subst hb2
    simp only [if_true]
    refine hb i hlt s₂ av hm (ho₁.up k₂.kp) (hF₁.up k₂.kp) (hX.kp _ _ hX₁ k₂.kp) _ _ fun s₃ hF₃ hX₃ ho₃ mv₃ => ?_
    exact ⟨n - (i + 1), by omega, i + 1, hlt, rfl, hF₃, hX₃, ho₃, (mv₁.trans k₂.mv).trans mv₃⟩
  · have hin : i = n := by omega
    subst hin
    refine htf s₁ av ho₁ ⟨hF₁, hX₁, hm⟩ _ _ fun b s₂ hb2 k₂ => ?_
    subst hb2
    simp only [Bool.false_eq_true, if_false]
    exact wpAny_execs_nil (hq s₂ (hF₁.up k₂.kp) (hX.kp _ _ hX₁ k₂.kp) (ho₁.up k₂.kp) (mv₁.trans k₂.mv))

/-- the truth of a tuple under a name -/
theorem tst_tup {x : Str} {pos : Pos} {Vs : List VP} {hX : OnMd md X} (hk : env.scope.kind = .function) (hρ : ρ.lookup x = some (VTup Vs)) (hfit : (Vs.length : Int) < 2 ^ 63) (hd : (x == ("__debug__" : Str)) = false := by decide) :
    Tst prog w A env (frHP env h₀ ρ md X hX) (.Name x pos) (!Vs.isEmpty) := by
  intro s av ho hg E Q hq
  refine isTrue_plain (ev_name hk hρ hd s av ho hg E _ fun v s₁ hv k₁ => ?_)
  obtain ⟨a, vs, rfl, _, ht, hi⟩ := hv
  have e : vs.toArray.size = Vs.length := by rw [List.size_toArray, hi.length]
  refine truthy_tuple ht (by rw [e]; exact hfit) (hq _ _ ?_ (k₁.trans (Kps.tok _)))
  cases Vs with
  | nil => cases hi with | nil => rfl
  | cons V Vs => cases hi with | cons _ _ => simp
end
end Mine

end
section
namespace Mine

section
variable {prog : Program} {w : World} {A : Around} {defs : List DefItem} {names : List Str} {V : VP}

/-- a def with one parameter and a starred one -/
theorem callOkVar {d : DefItem} {p q : Str} {V₁ : VP} {Vs : List VP} (hpq : p ≠ q) (hroom : A.depth < recursionLimit) (hh : A.handled = none) (hbind : ∀ pm cd doc v vs, bindArgs (docDef d.name d.params d.body d.scope pm cd doc) ⟨v :: vs, []⟩ = (newTuple vs >>= fun t => pure [(p, v), (q, t)]))
    (hloc : d.scope.names.lookup p = some .local) (hloc' : d.scope.names.lookup q = some .local) (hcell : ∀ x ∈ d.scope.names, x.2 ≠ .cell) (hk : d.scope.kind = .function) (hco : d.scope.isCoroutine = false) (hgen : d.scope.isGenerator = false)
    (hsz : Vs.length ≤ sizeLine)
    (hbody : ∀ L f cd h₀, Cx (A.deeper (envOf d.name d.scope L f cd)) (envOf d.name d.scope L f cd) h₀ defs names →
      HR prog w (A.deeper (envOf d.name d.scope L f cd)) (envOf d.name d.scope L f cd) h₀ noMd [(p, V₁), (q, VTup Vs)] noX (execs d.body (envOf d.name d.scope L f cd)) V) : CallOk prog w A defs names d (V₁ :: Vs) V := by
  intro s av f vs ho hf hG hvs E Q hq
  obtain ⟨c', o, pm, doc, h1, h2, h3⟩ := hf
  cases hvs with | cons hv hr =>
  rename_i v vs
  obtain ⟨N, mg, mb, consts, objs, G⟩ := hG
  refine wpAny_call (codeAny_call_function hroom h1 h2 hco hgen rfl h3 ?_)
  rw [hbind]
  refine wpAny_bind (wpAny_newObj_type (wpAny_pure ?_) (by show vs.toArray.size ≤ sizeLine; rw [List.size_toArray, (show Items av s.heap vs Vs from hr).length]; exact hsz))
  generalize hob : ({ cls := .type "tuple", dict := none, data := .seq vs.toArray } : Obj) = ob
  generalize hH : s.heap.push ob = H
  have kH : Kp s.heap H := fun b o e => hH ▸ Heap.get?_push_of_some _ e
  have G' := G.keeps kH
  refine wpAny_newFunctionEnv (s := { s with heap := H }) hcell (by intro x hx; simp at hx; rcases hx with rfl | rfl <;> assumption) (fun h₁ hns hsb => ⟨G'.nolimit.fresh _ hsb, ?_⟩) hk
  show codeAny _ _ (.func d.body (envOf d.name d.scope H.objs.size f (.ref c'))) _ _
  have k1 : Kp H h₁ := fun b o e => hsb.extBut b o (Nat.ne_of_lt (Heap.lt_size e)) (Heap.get?_push_of_some _ e)
  have F : Fr s.heap H.objs.size h₁ (fun x => [(p, v), (q, Value.ref s.heap.objs.size)].reverse.lookup x) := ⟨hns, fun b o e => k1 b o (kH b o e), by rw [← hH, Heap.size_push]; exact Nat.le_succ _⟩
  have k : Kp s.heap h₁ := F.keep
  have hT : H.get? s.heap.objs.size = some ob := by subst hob; exact hH ▸ Heap.get?_push_size _ rfl
  refine codeAny_func ?_
  refine hbody _ _ _ s.heap ⟨hk, rfl, rfl, hh, ⟨N, mg, mb, consts, objs, G⟩⟩ { s with heap := h₁, toks := _ } av (fun _ h => h.elim) (ho.up k) (frame_of F fun x W hx => ?_) trivial _ _ fun v' s' hv' hk' mv => ?_
  · by_cases hxp : x = p
    · subst hxp
      rw [List.lookup_cons_self] at hx
      obtain rfl := Option.some.inj hx
      exact ⟨v, V₁.up hv (Kp.sqk k), hloc, by simp [List.lookup_cons, show (x == q) = false by simpa using hpq]⟩
    · rw [List.lookup_cons, show (x == p) = false by simpa using hxp] at hx
      by_cases hxq : x = q
      · subst hxq
        rw [List.lookup_cons_self] at hx
        obtain rfl := Option.some.inj hx
        exact ⟨.ref s.heap.objs.size, ⟨_, vs, rfl, ho.new, ⟨ob, k1 _ _ hT, by subst hob; rfl, 0, by subst hob; rfl⟩, (show Items av s.heap vs Vs from hr).up (Kp.sqk k)⟩, hloc', by simp⟩
      · rw [List.lookup_cons, show (x == q) = false by simpa using hxq] at hx; simp at hx
  · obtain ⟨h2, t2, rfl, _⟩ := mv
    exact hq v' _ hv' (Kps.of hk')
end
end Mine

end
section
open PySem PySem.Builtin PySem.Builtin.Str PySem.StrLaws
namespace Mine

/-- each y from the left, at place i on -/
def cutsW (y : List Nat) : Nat → List Nat → List Nat
  | _, [] => []
  | i, c :: t => if ((c :: t).take y.length == y) = true then i :: cutsW y (i + y.length) (t.drop (y.length - 1)) else cutsW y (i + 1) t
termination_by _ l => l.length
decreasing_by all_goals simp_wf; try omega
/-- each y from the left gives way to z -/
def replW (y z : List Nat) : List Nat → List Nat
  | [] => []
  | c :: t => if ((c :: t).take y.length == y) = true then z ++ replW y z (t.drop (y.length - 1)) else c :: replW y z t
termination_by l => l.length
decreasing_by all_goals simp_wf; try omega

theorem cutsW_nil (y : List Nat) (i : Nat) : cutsW y i [] = [] := by rw [cutsW]
theorem replW_nil (y z : List Nat) : replW y z [] = [] := by rw [replW]
theorem cutsW_cons (y : List Nat) (i c : Nat) (t : List Nat) : cutsW y i (c :: t) = if ((c :: t).take y.length == y) = true then i :: cutsW y (i + y.length) (t.drop (y.length - 1)) else cutsW y (i + 1) t := by rw [cutsW]
theorem replW_cons (y z : List Nat) (c : Nat) (t : List Nat) : replW y z (c :: t) = if ((c :: t).take y.length == y) = true then z ++ replW y z (t.drop (y.length - 1)) else c :: replW y z t := by rw [replW]

theorem drop_cons {l : List Nat} {i : Nat} (h : i < l.length) : l.drop i = l[i] :: l.drop (i + 1) := List.drop_eq_getElem_cons h

theorem occ_loop (x y : Str) (hy : 1 ≤ y.length) : ∀ (k i : Nat) (found : Array Nat) (free : Nat), i + k = x.length + 1 → found.size ≤ i →
    (forIn (List.range' i k) (found, free) (occBody x y x.length (x.length + 1))).run.fst.toList = found.toList ++ cutsW y.cps.toList (max i free) (x.cps.toList.drop (max i free)) := by
  have hxl : x.cps.toList.length = x.length := by simp [Str.length]
  have hyl : y.cps.toList.length = y.length := by simp [Str.length]
  intro k
  induction k with
  | zero =>
    intro i found free hk hf
    rw [List.drop_of_length_le (by rw [hxl]; omega), cutsW_nil]
    simp
  | succ k ih =>
    intro i found free hk hf
    rw [List.range'_succ, List.forIn_cons]
    unfold occBody
    split
    · rename_i hc
      obtain ⟨⟨⟨h1, h2⟩, h3⟩, h4⟩ := hc
      have e := ih (i + 1) (found.push i) (i + y.length) (by omega) (by simp; omega)
      simp only [pure_bind]
      have e' : (forIn (List.range' (i + 1) k) (found.push i, i + y.length) (occBody x y x.length (x.length + 1))).run.fst.toList = _ := e
      refine e'.trans ?_
      rw [Nat.max_eq_right (by omega : i + 1 ≤ i + y.length), Nat.max_eq_left h2, drop_cons (by rw [hxl]; omega : i < x.cps.toList.length), cutsW_cons]
      rw [subAt_eq, drop_cons (by rw [hxl]; omega : i < x.cps.toList.length)] at h4
      rw [hyl, if_pos h4, List.drop_drop, show i + 1 + (y.length - 1) = i + y.length by omega]
      simp
    · rename_i hc
      have e := ih (i + 1) found free (by omega) (by omega)
      simp only [pure_bind]
      have e' : (forIn (List.range' (i + 1) k) (found, free) (occBody x y x.length (x.length + 1))).run.fst.toList = _ := e
      refine e'.trans ?_
      by_cases hfi : free ≤ i
      · rw [Nat.max_eq_left (by omega : free ≤ i + 1), Nat.max_eq_left hfi]
        by_cases hin : i < x.length
        · rw [drop_cons (by rw [hxl]; omega : i < x.cps.toList.length), cutsW_cons, if_neg]
          intro hm
          refine hc ⟨⟨⟨(show found.size < x.length + 1 by omega), hfi⟩, ?_⟩, ?_⟩
          · have := congrArg List.length (beq_iff_eq.mp hm)
            rw [List.length_take, List.length_cons, List.length_drop, hyl, hxl] at this
            omega
          · rw [subAt_eq, drop_cons (by rw [hxl]; omega : i < x.cps.toList.length), ← hyl]; exact hm
        · rw [List.drop_of_length_le (by rw [hxl]; omega), List.drop_of_length_le (by rw [hxl]; omega), cutsW_nil, cutsW_nil]
      · rw [Nat.max_eq_right (by omega), Nat.max_eq_right (by omega)]
theorem occ_cuts (x y : Str) (hy : 1 ≤ y.length) : occurrences x y 0 x.length (x.length + 1) = cutsW y.cps.toList 0 x.cps.toList := by
  rw [occ_eq, occ_loop x y hy (x.length + 1 - 0) 0 #[] 0 (by omega) (by simp)]
  simp

theorem join_toList_cons (z p q : Str) (r : List Str) : (Str.join z (p :: q :: r)).cps.toList = p.cps.toList ++ z.cps.toList ++ (Str.join z (q :: r)).cps.toList := by
  show (p ++ z ++ Str.join z (q :: r)).cps.toList = _
  rw [Str.cps_append, Str.cps_append]; simp

theorem parts_repl (x y z : Str) (hy : 1 ≤ y.length) : ∀ (k i a : Nat), i + k = x.length → a ≤ i →
    (Str.join z (partsFrom x y.length a (cutsW y.cps.toList i (x.cps.toList.drop i)))).cps.toList = (x.cps.toList.drop a).take (i - a) ++ replW y.cps.toList z.cps.toList (x.cps.toList.drop i) := by
  have hxl : x.cps.toList.length = x.length := by simp [Str.length]
  have hyl : y.cps.toList.length = y.length := by simp [Str.length]
  intro k
  induction k using Nat.strongRecOn with
  | ind k ih =>
    intro i a hk ha
    by_cases hin : i < x.length
    · rw [drop_cons (by rw [hxl]; omega : i < x.cps.toList.length), cutsW_cons, replW_cons]
      split
      · rename_i hm
        have hlen := congrArg List.length (beq_iff_eq.mp hm)
        rw [List.length_take, List.length_cons, List.length_drop, hyl, hxl] at hlen
        have e := ih (k - y.length) (by omega) (i + y.length) (i + y.length) (by omega) (Nat.le_refl _)
        rw [hyl, List.drop_drop, show i + 1 + (y.length - 1) = i + y.length by omega]
        show (Str.join z (strSub x a i :: partsFrom x y.length (i + y.length) _)).cps.toList = _
        obtain ⟨p, r, hpr⟩ := partsFrom_ne x y.length (i + y.length) (cutsW y.cps.toList (i + y.length) (x.cps.toList.drop (i + y.length)))
        rw [hpr] at e ⊢
        rw [join_toList_cons, e, strSub_toList]
        simp
      · have e := ih (k - 1) (by omega) (i + 1) a (by omega) (by omega)
        rw [e]
        have : (x.cps.toList.drop a).take (i + 1 - a) = (x.cps.toList.drop a).take (i - a) ++ [x.cps.toList[i]'(by rw [hxl]; omega)] := by
          rw [show i + 1 - a = (i - a) + 1 by omega, List.take_add_one, List.getElem?_drop, show a + (i - a) = i by omega, List.getElem?_eq_getElem (by rw [hxl]; omega)]
          rfl
        rw [this]
        simp
    · have hi : i = x.length := by omega
      subst hi
      rw [List.drop_of_length_le (by rw [hxl]; omega : x.cps.toList.length ≤ x.length), cutsW_nil, replW_nil]
      show (strSub x a x.length).cps.toList = _
      rw [strSub_toList, List.append_nil]

theorem kind_one {y : Str} (h : y.cps.all (· < 256) = true) : Builtin.Str.strKind y = 1 := by unfold Builtin.Str.strKind; rw [if_pos h]
theorem kind_pos (x : Str) : 1 ≤ Builtin.Str.strKind x := by unfold Builtin.Str.strKind; split <;> (try split) <;> omega

theorem split_parts (x y : Str) (hy : 1 ≤ y.length) (hk : y.cps.all (· < 256) = true) : Txt.split x y = partsFrom x y.length 0 (cutsW y.cps.toList 0 x.cps.toList) := by
  have hxl : x.cps.toList.length = x.length := by simp [Str.length]
  have hyl : y.cps.toList.length = y.length := by simp [Str.length]
  unfold Txt.split
  rw [occ_cuts x y hy]
  have hwhole : partsFrom x y.length 0 [] = [x] := by show [strSub x 0 x.length] = [x]; rw [sub_whole]
  split
  · rename_i hc
    have hlt : x.length < y.length := by
      rw [Bool.or_eq_true] at hc
      rcases hc with h | h
      · simpa using h
      · have : Builtin.Str.strKind x < Builtin.Str.strKind y := by simpa using h
        rw [kind_one hk] at this
        have := kind_pos x
        omega
    have : ∀ (l : List Nat) (i : Nat), l.length < y.length → cutsW y.cps.toList i l = [] := by
      intro l
      induction l with
      | nil => intro i _; exact cutsW_nil _ _
      | cons c t ih =>
        intro i hl
        rw [cutsW_cons, if_neg, ih _ (by simp at hl; omega)]
        intro hm
        have := congrArg List.length (beq_iff_eq.mp hm)
        rw [List.length_take, hyl] at this
        omega
    rw [this _ _ (by rw [hxl]; exact hlt), hwhole]
  · split
    · rename_i he
      rw [show cutsW y.cps.toList 0 x.cps.toList = [] by simpa using he, hwhole]
    · exact partsBetween_eq x _ _

theorem rep1_toList (x y z : Str) (hy : 1 ≤ y.length) (hk : y.cps.all (· < 256) = true) : (Txt.join z (Txt.split x y)).cps.toList = replW y.cps.toList z.cps.toList x.cps.toList := by
  unfold Txt.join
  rw [glued_eq_join, split_parts x y hy hk]
  have := parts_repl x y z hy x.length 0 0 (by omega) (Nat.le_refl _)
  simpa using this

theorem replW_one (c : Nat) (z : List Nat) : ∀ l : List Nat, replW [c] z l = l.flatMap fun d => if d = c then z else [d]
  | [] => by rw [replW_nil]; rfl
  | d :: t => by
    rw [replW_cons, List.flatMap_cons]
    by_cases h : d = c
    · rw [if_pos (by simp [h]), if_pos h]
      simp only [List.length_cons, List.length_nil, Nat.zero_add, Nat.sub_self, List.drop_zero]
      rw [replW_one c z t]
    · rw [if_neg (by simpa using h), if_neg h, replW_one c z t]
      rfl
end Mine

end
section
open PySem PySem.Builtin PySem.Builtin.Str PySem.StrLaws PyProof.Rows
namespace Mine
def letter (b : Bool) : Nat := if b then 98 else 97
def stB (l : List Bool) : Str := ⟨(l.map letter).toArray⟩

/-- the order of texts -/
def leS (a b : Str) : Prop := a.cps.toList ≤ b.cps.toList
theorem leS_antisymm {a b : Str} (h : leS a b) (h' : leS b a) : a = b := by
  have := List.le_antisymm h h'
  obtain ⟨a⟩ := a; obtain ⟨b⟩ := b
  exact congrArg Str.mk (Array.toList_inj.mp this)
theorem rising_pairwise : ∀ (l : List Str) (p : Str), risingS p l = true → (p :: l).Pairwise leS
  | [], p, _ => by simp
  | x :: r, p, h => by
    rw [risingS, Bool.and_eq_true, Bool.not_eq_true', ltCps_eq, decide_eq_false_iff_not] at h
    have ih := rising_pairwise r x h.2
    refine List.Pairwise.cons (fun y hy => ?_) ih
    have hpx : leS p x := h.1
    rcases List.mem_cons.mp hy with rfl | hy
    · exact hpx
    · exact List.le_trans hpx ((List.pairwise_cons.mp ih).1 y hy)
theorem sorted_pairwise {l : List Str} (h : sortedS l = true) : l.Pairwise leS := by
  cases l with
  | nil => exact .nil
  | cons x r => exact rising_pairwise r x h
/-- the one rising order -/
theorem sorted_unique {xs ys ys' : List Str} (hp : ys.Perm xs) (hs : ys.Pairwise leS) : ys'.Perm xs → sortedS ys' = true → ys' = ys :=
  fun hp' hs' => List.Perm.eq_of_pairwise (le := leS) (fun a b _ _ h h' => leS_antisymm h h') (sorted_pairwise hs') hs (hp'.trans hp.symm)

/-- one letter as a text -/
def l1 (b : Bool) : Str := ⟨#[letter b]⟩
theorem letters_stB (l : List Bool) : letters (stB l) = l.map l1 := by simp [letters, stB, l1, Function.comp_def]
end Mine

end
section
namespace Mine

section
variable {prog : Program} {w : World} {A : Around} {env : Env} {h₀ : Heap} {md : Addr → Prop} {ρ ρc : Locs} {X : Heap → Prop} {δ : Type}

theorem getD_of {α : Type} {l : List α} {i : Nat} {a d : α} (h : l[i]? = some a) : l.getD i d = a := by simp [List.getD, h]
theorem map_get {α β : Type} {g : α → β} {l : List α} {i : Nat} {b : β} (h : (l.map g)[i]? = some b) : ∃ a, l[i]? = some a ∧ b = g a := by
  rw [List.getElem?_map] at h
  cases ha : l[i]? with
  | none => rw [ha] at h; cases h
  | some a => rw [ha] at h; exact ⟨a, rfl, (Option.some.inj h).symm⟩

/-- a comprehension over data: each d gives g d -/
theorem ev_compD {elt iter : Expr} {x : Str} {px : Pos} {scope : Scope} {cl : List (Str × Addr)} {pos : Pos} {hX : OnMd md X} (ds : List δ) (den g : δ → VP) (K : Caps env scope cl ρ ρc)
    (hit : EvIt prog w A env (frHP env h₀ ρ md X hX) iter (ds.map den)) (hx : scope.names.lookup x = some .local)
    (he : ∀ d C, d ∈ ds → Ev prog w A (compEnvC scope cl C env) (frHP (compEnvC scope cl C env) h₀ ((x, den d) :: ρc) md X hX) elt (g d))
    (hsz : ds.length ≤ sizeLine) (hs : ∀ x, foldedSetIterable iter env x = pure x := by intro _; kernel_rfl!) :
    Ev prog w A env (frHP env h₀ ρ md X hX) (.ListComp elt [⟨.Name x px, iter, [], 0⟩] scope pos) (VList (ds.map g)) := by
  refine ev_comp (fun i => (x, (ds.map den).getD i VNone) :: ρc) K hit (by simp) (fun i V C hV => ?_) (fun i W' C hW => ?_) (by simpa using hsz) (fun _ _ => rfl) hs
  · rw [getD_of hV]
    exact binds_name K.kind (lookup_relabel_local hx)
  · obtain ⟨d, hd, rfl⟩ := map_get hW
    have := he d C (List.mem_of_getElem? hd)
    rw [show (ds.map den).getD i VNone = den d from getD_of (by rw [List.getElem?_map, hd]; rfl)]
    exact this

/-- a name bound to such a one -/
theorem ht_assign_compD {elt iter : Expr} {x y : Str} {px py : Pos} {scope : Scope} {cl : List (Str × Addr)} {pos spos : Pos} {hX : OnMd md X} (ds : List δ) (den g : δ → VP) (f : Fx env h₀ md) (K : Caps env scope cl ρ ρc)
    (hit : EvIt prog w A env (frHP env h₀ ρ md X hX) iter (ds.map den)) (hx : scope.names.lookup x = some .local)
    (he : ∀ d C, d ∈ ds → Ev prog w A (compEnvC scope cl C env) (frHP (compEnvC scope cl C env) h₀ ((x, den d) :: ρc) md X hX) elt (g d))
    (hy : env.kindOf y = some .local ∨ (env.kindOf y = some .cell ∧ ∃ c, env.cells.lookup y = some c)) (hsz : ds.length ≤ sizeLine)
    (hsw : swapsWith (.ListComp elt [⟨.Name x px, iter, [], 0⟩] scope pos) (some (.Name y py)) spos.line env = pure true := by kernel_rfl!)
    (hs : ∀ x, foldedSetIterable iter env x = pure x := by intro _; kernel_rfl!) :
    HT prog w A env h₀ md ρ X (exec (.Assign [.Name y py] (.ListComp elt [⟨.Name x px, iter, [], 0⟩] scope pos) spos) env) ((y, VList (ds.map g)) :: ρ) X := by
  refine ht_assign_comp (fun i => (x, (ds.map den).getD i VNone) :: ρc) f K hit (by simp) (fun i V C hV => ?_) (fun i W' C hW => ?_) hy hsw (by simpa using hsz) tgt_name hs
  · rw [getD_of hV]
    exact binds_name K.kind (lookup_relabel_local hx)
  · obtain ⟨d, hd, rfl⟩ := map_get hW
    have := he d C (List.mem_of_getElem? hd)
    rw [show (ds.map den).getD i VNone = den d from getD_of (by rw [List.getElem?_map, hd]; rfl)]
    exact this

/-- the frame of a comprehension's turn -/
theorem cx_comp {defs : List DefItem} {names : List Str} {scope : Scope} {cl : List (Str × Addr)} {C : Addr} (x : Cx A env h₀ defs names) (hk : scope.kind = .function) : Cx A (compEnvC scope cl C env) h₀ defs names :=
  ⟨hk, x.globals, x.builtins, x.handled, x.glob⟩
end

-- a list that may change, of texts
/-- the list R holds the texts xs -/
def XS (R : Addr) (xs : List Str) (h : Heap) : Prop := ∃ vs, h.PlainList R vs ∧ StrsAre vs.toList xs
theorem xs_on (R : Addr) (xs : List Str) : OnMd (fun b => b = R) (XS R xs) := fun h h' ⟨vs, ⟨n, e⟩, hs⟩ k => ⟨vs, ⟨n, k R _ rfl e⟩, hs⟩
theorem strsAre_get : ∀ {vs : List Value} {xs : List Str}, StrsAre vs xs → ∀ {i : Nat} {x : Str}, xs[i]? = some x → ∃ t, vs[i]? = some (.str x t)
  | _, _, .nil, i, x, h => by simp at h
  | _, _, .cons y t r, 0, x, h => by simp at h; subst h; exact ⟨t, by simp⟩
  | _, _, .cons y t r, i + 1, x, h => by simpa using strsAre_get r (by simpa using h)
theorem strsAre_len : ∀ {vs : List Value} {xs : List Str}, StrsAre vs xs → vs.length = xs.length
  | _, _, .nil => rfl
  | _, _, .cons _ _ r => by simp [strsAre_len r]
theorem strsAre_snoc {x : Str} {t : Tok} : ∀ {vs : List Value} {xs : List Str}, StrsAre vs xs → StrsAre (vs ++ [.str x t]) (xs ++ [x])
  | _, _, .nil => .cons _ _ .nil
  | _, _, .cons y u r => .cons y u (strsAre_snoc r)

section
variable {prog : Program} {w : World} {A : Around} {s : Shared} {av : Addr → Prop} {R : Addr} {xs : List Str} {x : Str}
theorem op_itemR {value slice : Expr} {a b : Value} {k : Int} (ha : (VRef R).P av s.heap a) (hX : XS R xs s.heap) (hb : (VInt k).P av s.heap b) (h0 : 0 ≤ k) (hk : k < 2 ^ 63) (hx : xs[k.toNat]? = some x)
    (hs : ∀ o i, subscripted slice false o i = operate [o, i] (getItem o i)) : Op prog w A (subscriptTail value slice a b) s ((VStr x).P av) := by
  obtain rfl : a = .ref R := ha
  obtain ⟨t, rfl⟩ := hb
  obtain ⟨vs, hpl, hst⟩ := hX
  obtain ⟨u, hv⟩ := strsAre_get hst hx
  exact fun E Q hq => tail_any hpl.isList.typeIs slot_list_getitem.lookup (wpAny_getItem_list hpl.isList h0 hk (by simpa using hv) (hq _ _ ⟨u, rfl⟩ (Kps.refl _))) (hs _ _)
theorem op_itemRneg {value slice : Expr} {a b : Value} {k : Int} (ha : (VRef R).P av s.heap a) (hX : XS R xs s.heap) (hb : (VInt k).P av s.heap b) (h0 : k < 0) (h1 : -(xs.length : Int) ≤ k) (hk : -(2 ^ 63) ≤ k) (hx : xs[(k + xs.length).toNat]? = some x)
    (hs : ∀ o i, subscripted slice false o i = operate [o, i] (getItem o i)) : Op prog w A (subscriptTail value slice a b) s ((VStr x).P av) := by
  obtain rfl : a = .ref R := ha
  obtain ⟨t, rfl⟩ := hb
  obtain ⟨vs, hpl, hst⟩ := hX
  obtain ⟨u, hv⟩ := strsAre_get hst hx
  have e : vs.size = xs.length := by rw [← strsAre_len hst]; simp
  exact fun E Q hq => tail_any hpl.isList.typeIs slot_list_getitem.lookup (wpAny_getItem_list_neg (x := .str x u) hpl.isList h0 (by rw [e]; exact h1) hk (by rw [e]; simpa using hv) (hq _ _ ⟨u, rfl⟩ (Kps.refl _))) (hs _ _)
end

section
variable {prog : Program} {w : World} {A : Around} {env : Env} {h₀ : Heap} {ρ : Locs} {R : Addr} {xs : List Str} {x : Str}
theorem ht_appendS {r : Str} {np apos pos epos : Pos} {elt : Expr} (f : Fx env h₀ (fun b => b = R)) (hr : ρ.lookup r = some (VRef R)) (hsz : xs.length ≤ 1000) (he : Ev prog w A env (frHP env h₀ ρ (fun b => b = R) (XS R xs) (xs_on R xs)) elt (VStr x))
    (hd : (r == ("__debug__" : Str)) = false := by kernel_rfl!) (hbase : attributeBase (.Name r np) "append" env (eval (.Name r np) env) = eval (.Name r np) env := by kernel_rfl!)
    (hfew : ((backTo pos (starEach [elt] env)).all (fun x => !x.1) && (backToKw pos (keywordEach [] env)).all (fun x => x.1.isSome)
      && decide (([elt] : List Expr).length + ([] : List Keyword).length + (if ([] : List Keyword).isEmpty then 0 else 1) < 30)) = true := by kernel_rfl!)
    (hline : (apos.endLine == pos.line) = true := by kernel_rfl!) (htrees : backTo pos (starEach [elt] env) = [(false, eval elt env)] := by kernel_rfl!)
    (hi : interactive env = false := by kernel_rfl!) (hs : swapsWith (.Call (.Attribute (.Name r np) "append" apos) [elt] [] pos) none epos.line env = pure false := by kernel_rfl!) :
    HT prog w A env h₀ (fun b => b = R) ρ (XS R xs) (exec (.Expr (.Call (.Attribute (.Name r np) "append" apos) [elt] [] pos) epos) env) ρ (XS R (xs ++ [x])) := by
  refine ht_append f hr rfl he (fun h hX => ?_) (fun h h' vs v av hX hpl hv hpl' _ => ?_) hd hbase hfew hline htrees hi hs
  · obtain ⟨vs, hpl, hst⟩ := hX
    refine ⟨vs, hpl, ?_⟩
    have := strsAre_len hst
    rw [sizeLine_eq, ← Array.length_toList, this]; omega
  · obtain ⟨vs', ⟨n', e'⟩, hst⟩ := hX
    obtain ⟨n, e⟩ := hpl
    rw [e] at e'
    have : vs' = vs := by cases e'; rfl
    subst this
    obtain ⟨t, rfl⟩ := hv
    exact ⟨_, hpl', by simpa using strsAre_snoc hst⟩
end

/-- a for over range(n) -/
theorem ht_for_range {prog : Program} {w : World} {A : Around} {env : Env} {h₀ : Heap} {md : Addr → Prop} {ρ₀ : Locs} {X₀ : Heap → Prop} {x : Str} {px pos np rp : Pos} {e : Expr} {body : List Stmt} {hX₀ : OnMd md X₀} (n : Nat) (ρ : Nat → Locs) (X : Nat → Heap → Prop) (f : Fx env h₀ md) (hX : ∀ i, OnMd md (X i))
    (hh : A.handled = none) (hf : Ev prog w A env (frHP env h₀ ρ₀ md X₀ hX₀) (.Name "range" np) (VEq (.type "range"))) (he : Ev prog w A env (frHP env h₀ ρ₀ md X₀ hX₀) e (VInt n)) (hn : n ≤ 1000)
    (hρ0 : ∀ p ∈ ρ 0, ρ₀.lookup p.1 = some p.2) (hX0 : ∀ h, X₀ h → X 0 h)
    (hx : env.kindOf x = some .local ∨ (env.kindOf x = some .cell ∧ ∃ c, env.cells.lookup x = some c))
    (hbody : ∀ i, i < n → HT prog w A env h₀ md ((x, VInt i) :: ρ i) (X i) (execs body env) (ρ (i + 1)) (X (i + 1)))
    (hse : starEach [e] env = [(false, eval e env)] := by kernel_rfl!)
    (hs : ∀ x, foldedSetIterable (.Call (.Name "range" np) [e] [] rp) env x = pure x := by intro _; kernel_rfl!) :
    HT prog w A env h₀ md ρ₀ X₀ (exec (.For (.Name x px) (.Call (.Name "range" np) [e] [] rp) body [] pos) env) (ρ n) (X n) := by
  have key := ht_for (prog := prog) (w := w) (A := A) (env := env) (h₀ := h₀) (md := md) (ρ₀ := ρ₀) (X₀ := X₀) (hX₀ := hX₀) (x := x) (px := px) (pos := pos) (body := body) (iter := .Call (.Name "range" np) [e] [] rp) (Vs := (List.range n).map fun (i : Nat) => VInt i)
    ρ X f hX (it_range hh hf he (by omega) hse) hρ0 hX0 hx (fun i V hV => ?_) hs
  · rw [List.length_map, List.length_range] at key
    exact key
  · obtain ⟨j, hj, rfl⟩ := map_get hV
    have hi : i < n := by
      rcases Nat.lt_or_ge i n with h | h
      · exact h
      · rw [List.getElem?_eq_none (by simpa using h)] at hj; cases hj
    rw [List.getElem?_range hi] at hj
    obtain rfl := Option.some.inj hj
    exact hbody i hi
end Mine

end
section
namespace Mine

-- a comprehension with two clauses, the first with one test
abbrev cmp2 (elt t1 i1 c t2 i2 : Expr) (scope : Scope) (pos : Pos) : Expr := .ListComp elt [⟨t1, i1, [c], 0⟩, ⟨t2, i2, [], 0⟩] scope pos

theorem turn2_out (elt t1 i1 c t2 i2 : Expr) (scope : Scope) (pos : Pos) (it acc : Value) (env : Env) :
    compTurn (cmp2 elt t1 i1 c t2 i2 scope pos) 0 it acc env = (do
      standAt i1.pos
      match ← pyNext it with
      | none => pure (.done .next)
      | some v =>
        letOwnedTupleGo t1 it v
        assign t1 env v
        let mut ok := true
        for c in [c] do
          if ok then ok ← isTrue c env (eval c env)
        if ok then
          let x ← eval i2 env
          standAt i2.pos
          let x ← foldedSetIterable i2 env x
          let _ ← runOwn (.compStart (cmp2 elt t1 i1 c t2 i2 scope pos) 1 (← holding [x] (pyIter x)) acc env) env
        again (.compLoop (cmp2 elt t1 i1 c t2 i2 scope pos) 0 it acc env)) := by rfl

theorem turn2_in (elt t1 i1 c t2 i2 : Expr) (scope : Scope) (pos : Pos) (it acc : Value) (env : Env) :
    compTurn (cmp2 elt t1 i1 c t2 i2 scope pos) 1 it acc env = (standAt i2.pos >>= fun _ => pyNext it >>= fun r => match r with
      | none => pure (.done .next)
      | some v => letOwnedTupleGo t2 it v >>= fun _ => assign t2 env v >>= fun _ =>
        (eval elt env >>= fun x => call (.builtin "list.append") [acc, x] >>= fun _ => pure ()) >>= fun _ =>
          again (.compLoop (cmp2 elt t1 i1 c t2 i2 scope pos) 1 it acc env)) := by rfl

section
variable {prog : Program} {w : World} {A : Around} {R : Result → Shared → Prop} {s : Shared} {elt t1 i1 c t2 i2 : Expr} {scope : Scope} {pos : Pos} {it acc : Value} {env : Env}

theorem loop2_in (I : Nat → Shared → Prop)
    (turn : ∀ n s, I n s → ∀ E : Value → Shared → Prop, wpAny (model prog w) A (pyNext it) (fun r s₁ => match r with
      | none => R (.ok .next) s₁
      | some v => wpAny (model prog w) A (letOwnedTupleGo t2 it v) (fun _ s₁' => wpAny (model prog w) A (assign t2 env v) (fun _ s₂ => wpAny (model prog w) A (eval elt env) (fun x s₃ =>
          wpAny (model prog w) A (call (.builtin "list.append") [acc, x]) (fun _ s₄ => ∃ m, m < n ∧ I m s₄) E s₃) E s₂) E s₁') E s₁) E s)
    (n : Nat) (h : I n s) : codeAny (model prog w) A (.compLoop (cmp2 elt t1 i1 c t2 i2 scope pos) 1 it acc env) R s := by
  refine codeAny_loop rfl I (fun n s hI => ?_) n h
  show wpAny _ _ ((compTurn (cmp2 elt t1 i1 c t2 i2 scope pos) 1 it acc env).onRaise (fun x => do noteFrame x env; theTreesLotGoes x)) _ _ s
  refine wpAny_noted ?_
  rw [turn2_in]
  refine wpAny_bind (wpAny_standAt (wpAny_bind (wpAny_mono (turn n s hI _) (fun r s₁ h₁ => ?_) fun _ _ h' => h')))
  cases r with
  | none => exact wpAny_pure h₁
  | some v =>
    refine wpAny_bind (wpAny_mono h₁ (fun _ s₁' h₁' => ?_) fun _ _ h' => h')
    exact wpAny_bind (wpAny_mono h₁' (fun _ s₂ h₂ => wpAny_bind (wpAny_bind (wpAny_mono h₂ (fun x s₃ h₃ => wpAny_bind (wpAny_mono h₃
      (fun _ s₄ h₄ => wpAny_pure (wpAny_pure ⟨rfl, h₄⟩)) fun _ _ h' => h')) fun _ _ h' => h'))) fun _ _ h' => h')

theorem start2_in (h0 : codeAny (model prog w) A (.compLoop (cmp2 elt t1 i1 c t2 i2 scope pos) 1 it acc env) R s)
    (h : ∀ E : Value → Shared → Prop, wpAny (model prog w) A (pyIter it) (fun it' s' => codeAny (model prog w) A (.compLoop (cmp2 elt t1 i1 c t2 i2 scope pos) 1 it' acc env) R s') E s) :
    codeAny (model prog w) A (.compStart (cmp2 elt t1 i1 c t2 i2 scope pos) 1 it acc env) R s := by
  refine codeAny_of_tree ?_
  show wpAny _ _ ((compStart (cmp2 elt t1 i1 c t2 i2 scope pos) 1 it acc env).onRaise (fun x => do noteFrame x env; standAt theWindowsPlace)) _ _ s
  refine wpAny_notedAt ?_
  unfold compStart
  show wpAny _ _ (ask >>= _) _ _ s
  refine wpAny_bind (wpAny_askSetting (wpAny_ite ?_))
  split
  · first
      | exact wpAny_bind (wpAny_pure (wpAny_pure (And.intro rfl h0)))
      | exact wpAny_pure (And.intro rfl h0)
  · first
      | exact wpAny_bind (wpAny_rule (wpAny_bind (wpAny_standAt (wpAny_bind (wpAny_mono (h _) (fun it' s' h' => wpAny_pure (And.intro rfl h')) fun _ _ x => x)))))
      | (refine wpAny_bind (wpAny_rule ?_); show wpAny _ _ (standAt i2.pos >>= _) _ _ s; exact wpAny_bind (wpAny_standAt (wpAny_bind (wpAny_mono (h _) (fun it' s' h' => wpAny_pure (And.intro rfl h')) fun _ _ x => x))))

theorem loop2_out (I : Nat → Shared → Prop) (hfold : ∀ x, foldedSetIterable i2 env x = pure x)
    (turn : ∀ n s, I n s → ∀ E : Value → Shared → Prop, wpAny (model prog w) A (pyNext it) (fun r s₁ => match r with
      | none => R (.ok .next) s₁
      | some v => wpAny (model prog w) A (letOwnedTupleGo t1 it v) (fun _ s₁' => wpAny (model prog w) A (assign t1 env v) (fun _ s₂ => wpAny (model prog w) A (isTrue c env (eval c env)) (fun ok s₃ =>
          if ok = true then wpAny (model prog w) A (eval i2 env) (fun x s₄ => wpAny (model prog w) A (pyIter x) (fun j s₅ =>
            codeAny (model prog w) A (.compStart (cmp2 elt t1 i1 c t2 i2 scope pos) 1 j acc env) (fun r s₆ => match r with | .ok _ => ∃ m, m < n ∧ I m s₆ | .error _ => False) s₅) E s₄) E s₃
          else ∃ m, m < n ∧ I m s₃) E s₂) E s₁') E s₁) E s)
    (n : Nat) (h : I n s) : codeAny (model prog w) A (.compLoop (cmp2 elt t1 i1 c t2 i2 scope pos) 0 it acc env) R s := by
  refine codeAny_loop rfl I (fun n s hI => ?_) n h
  show wpAny _ _ ((compTurn (cmp2 elt t1 i1 c t2 i2 scope pos) 0 it acc env).onRaise (fun x => do noteFrame x env; theTreesLotGoes x)) _ _ s
  refine wpAny_noted ?_
  rw [turn2_out]
  refine wpAny_bind (wpAny_standAt (wpAny_bind (wpAny_mono (turn n s hI _) (fun r s₁ h₁ => ?_) fun _ _ h' => h')))
  cases r with
  | none => exact wpAny_pure h₁
  | some v =>
    refine wpAny_bind (wpAny_mono h₁ (fun _ s₁' h₁' => ?_) fun _ _ h' => h')
    refine wpAny_bind (wpAny_mono h₁' (fun _ s₂ h₂ => ?_) fun _ _ h' => h')
    refine wpAny_bind (wpAny_tests_one (wpAny_mono h₂ (fun okb s₃ h₃ => ?_) fun _ _ h' => h'))
    cases okb with
    | false => exact wpAny_pure ⟨rfl, h₃⟩
    | true =>
      refine wpAny_bind (wpAny_mono h₃ (fun x s₄ h₄ => wpAny_bind (wpAny_standAt (wpAny_bind (wpAny_of_eq (hfold x) (wpAny_bind (wpAny_holding (wpAny_mono h₄ (fun j s₅ h₅ => ?_) fun _ _ h' => h'))))))) fun _ _ h' => h')
      refine wpAny_bind (wpAny_runOwn (codeAny_mono h₅ fun r s₆ h₆ => ?_))
      cases r with
      | ok f => exact wpAny_pure ⟨rfl, h₆⟩
      | error e => exact h₆.elim
end
end Mine

end
section
namespace Mine

section
variable {prog : Program} {w : World} {A : Around} {h₀ : Heap} {δ ε : Type}

/-- the inner clause hands out es, and each is appended -/
theorem inner2 {cenv : Env} {elt t1 i1 c i2 : Expr} {x : Str} {px : Pos} {scope : Scope} {pos : Pos} {ρ₁ : Locs} {D : Addr} (es : List ε) (den g : ε → VP) (hk : cenv.scope.kind = .function) (hx : cenv.kindOf x = some .local)
    (hit : EvIt prog w A cenv (frP cenv h₀ ρ₁) i2 (es.map den)) (he : ∀ e, e ∈ es → Ev prog w A cenv (frP cenv h₀ ((x, den e) :: ρ₁)) elt (g e)) (hfree : ∀ V, ∀ p ∈ ρ₁, List.lookup p.1 ((x, V) :: ρ₁) = some p.2)
    (hDL : D ≠ cenv.locals) (hDc : ∀ n, cenv.cells.lookup n ≠ some D) (hD0 : h₀.get? D = none)
    {s : Shared} {av : Addr → Prop} {ys : Array Value} (ho : Off av s.heap) (hD : av D) (hF : FrameIs cenv h₀ ρ₁ av s.heap) (hpl : s.heap.PlainList D ys) (hsz : ys.size + es.length ≤ sizeLine)
    {E : Value → Shared → Prop} {K : Shared → Prop}
    (hK : ∀ h' tk (new : List Value), h'.PlainList D (ys ++ new.toArray) → Items av h' new (es.map g) → FrameIs cenv h₀ ρ₁ av h' → Off av h' → (∀ b o, b ≠ D → b ≠ cenv.locals → s.heap.get? b = some o → h'.get? b = some o) → K { s with heap := h', toks := tk }) :
    wpAny (model prog w) A (eval i2 cenv) (fun xv s₄ => wpAny (model prog w) A (pyIter xv) (fun j s₅ =>
      codeAny (model prog w) A (.compStart (cmp2 elt t1 i1 c (.Name x px) i2 scope pos) 1 j (.ref D) cenv) (fun r s₆ => match r with | .ok _ => K s₆ | .error _ => False) s₅) E s₄) E s := by
  refine hit s av ho ⟨hF, trivial, fun _ h => h.elim⟩ E _ fun I s' fp P St k hI hIe W hst hfp hfp2 hP => ?_
  rw [List.length_map] at W hP
  obtain ⟨oL, esL, epL, hoL, hdL⟩ := hF.locals
  obtain ⟨nD, eD⟩ := id hpl
  have hDI : D ≠ I := by rintro rfl; rw [hI] at eD; cases eD
  have hLI : cenv.locals ≠ I := by rintro h; rw [h, hI] at hoL; cases hoL
  have hcI : ∀ n, cenv.cells.lookup n ≠ some I := fun n hc => by obtain ⟨v, o, e, _⟩ := hF.cellAt hc; rw [hI] at e; cases e
  have h0I : h₀.get? I = none := none_of_kp hF.keep hI
  have hDf : D ∉ fp := fun hm => by
    rcases hfp2 D hm with e | ⟨_, h⟩
    · exact hDI e
    · exact h hD
  have hLf : cenv.locals ∉ fp := fun hm => by
    rcases hfp2 _ hm with e | ⟨⟨o, e, xs, n, hd⟩, _⟩
    · exact hLI e
    · rw [k.kp _ _ hoL] at e; cases e; rw [hdL] at hd; cases hd
  obtain ⟨hs', tk', rfl, kp⟩ := k
  have hav : ∀ b, (av b ∨ b = I) → ∃ o, hs'.get? b = some o := fun b hb => hb.elim (fun h => let ⟨o, e⟩ := ho b h; ⟨o, kp b o e⟩) fun e => by rw [e]; exact hIe _ _ hst
  have loop : codeAny (model prog w) A (.compLoop (cmp2 elt t1 i1 c (.Name x px) i2 scope pos) 1 (.ref I) (.ref D) cenv) (fun r s₆ => match r with | .ok _ => K s₆ | .error _ => False) { s with heap := hs', toks := tk' } := by
    refine loop2_in (fun j s' => ∃ h' tk new i, s' = { s with heap := h', toks := tk } ∧ i ≤ es.length ∧ j = es.length + 1 - i ∧ St i h' ∧ h'.PlainList D (ys ++ (new : List Value).toArray) ∧ Items (fun b => av b ∨ b = I) h' new ((es.take i).map g) ∧
        FrameIs cenv h₀ ρ₁ (fun b => av b ∨ b = I) h' ∧ Off (fun b => av b ∨ b = I) h' ∧ (∀ b o, b ≠ I → b ≠ D → b ≠ cenv.locals → hs'.get? b = some o → h'.get? b = some o) ∧
        (∀ i v, i < es.length → P i v → ∃ V, (es.map den)[i]? = some V ∧ V.P (fun b => av b ∨ b = I) h' v)) ?_ (es.length + 1)
      ⟨hs', tk', [], 0, rfl, Nat.zero_le _, rfl, hst, (by simpa using hpl.at fun o e => kp _ _ e), Paired.nil, (hF.grow (grow_new hI)).up kp, hav, fun b o _ _ _ e => e, hP⟩
    rintro j s' ⟨H, tk, new, i, rfl, hi, rfl, hsti, hacci, hits, hFi, hoi, hki, hPi⟩ E'
    by_cases hlt : i < es.length
    · refine W.item i _ _ _ hlt hsti fun v h₂ tk₂ hPv hst₂ hk₂ => ?_
      have hk₂' : ∀ b o, b ≠ I → H.get? b = some o → h₂.get? b = some o := fun b o hb e => hk₂ b o (fun hm => hb (List.mem_singleton.mp hm)) e
      obtain ⟨V, hV, hVv⟩ := hPi i v hlt hPv
      obtain ⟨e, hee⟩ := get_of_lt hlt
      rw [List.getElem?_map, hee] at hV
      obtain rfl := Option.some.inj hV
      refine wpAny_pure ?_
      have hF₂ : FrameIs cenv h₀ ρ₁ (fun b => av b ∨ b = I) h₂ := hFi.step hk₂' (.inr rfl) (Ne.symm hLI) hcI h0I
      have ho₂ : Off (fun b => av b ∨ b = I) h₂ := fun b hb => by
        by_cases hbI : b = I
        · rw [hbI]; exact hIe _ _ hst₂
        · obtain ⟨o, e⟩ := hoi b hb; exact ⟨o, hk₂' b o hbI e⟩
      have up₂ : ∀ {W : VP} {u}, W.P (fun b => av b ∨ b = I) H u → W.P (fun b => av b ∨ b = I) h₂ u := fun {W u} p => W.up p fun b o hb _ e => hk₂' b o (by rintro rfl; exact hb (.inr rfl)) e
      refine binds_name hk hx { s with heap := h₂, toks := tk₂ } _ v ho₂ hF₂ (up₂ hVv) _ _ fun h₃ tk₃ hF₃ ho₃ hk₃ => ?_
      refine he e (List.mem_of_getElem? hee) { s with heap := h₃, toks := tk₃ } _ ho₃ ⟨hF₃, trivial, fun _ h => h.elim⟩ _ _ fun y s₄ hy k₄ => ?_
      obtain ⟨h₄, tk₄, rfl, kp₄⟩ := k₄
      have hacc₄ : h₄.PlainList D (ys ++ new.toArray) := hacci.at fun o e => kp₄ _ o (hk₃ D o hDL (hk₂' D o hDI e))
      have hlen' : new.length = i := by have := hits.length; rw [List.length_map, List.length_take, Nat.min_eq_left hi] at this; exact this
      refine wpAny_list_append_plain (s := { s with heap := h₄, toks := tk₄ }) hacc₄ (fun h₅ hl₅ hs₅ => ?_) (by simp; omega)
      have hs₅' : ∀ b o, b ≠ D → h₄.get? b = some o → h₅.get? b = some o := fun b o hb e => hs₅.extBut b o hb e
      obtain ⟨oC, esC, epC, hoC, hdC⟩ := hFi.locals
      have allk : ∀ b o, b ≠ I → b ≠ cenv.locals → b ≠ D → H.get? b = some o → h₅.get? b = some o := fun b o a1 a2 a3 e => hs₅' b o a3 (kp₄ b o (hk₃ b o a2 (hk₂' b o a1 e)))
      have sqH : ∀ {W : VP} {u}, W.P (fun b => av b ∨ b = I) H u → W.P (fun b => av b ∨ b = I) h₅ u := fun {W u} p => W.up p fun b o hb ⟨xs, n, hd⟩ e =>
        allk b o (by rintro rfl; exact hb (.inr rfl)) (by rintro rfl; rw [hoC] at e; cases e; rw [hdC] at hd; cases hd) (by rintro rfl; exact hb (.inl hD)) e
      have sq₅ : ∀ {W : VP} {u}, W.P (fun b => av b ∨ b = I) h₄ u → W.P (fun b => av b ∨ b = I) h₅ u := fun {W u} p => W.up p fun b o hb _ e => hs₅' b o (by rintro rfl; exact hb (.inl hD)) e
      refine ⟨es.length + 1 - (i + 1), by omega, h₅, tk₄, new ++ [y], i + 1, rfl, hlt, rfl, ?_, ?_, ?_, ?_, ?_, ?_, ?_⟩
      · exact W.frame _ _ _ hst₂ fun b hb' o e => hs₅' b o (fun h => hDf (h ▸ hb')) (kp₄ b o (hk₃ b o (fun h => hLf (h ▸ hb')) e))
      · have e1 : ys ++ (new ++ [y]).toArray = (ys ++ new.toArray).push y := by apply Array.ext'; simp
        rw [e1]; exact hl₅
      · rw [List.take_add_one, hee, List.map_append]
        exact Paired.append (Paired.imp (fun _ _ p => sqH p) hits) (.cons (sq₅ hy) .nil)
      · refine ((hF₃.up kp₄).step hs₅' (.inl hD) hDL hDc hD0).sub (hfree _)
      · intro b hb'
        by_cases hbD : b = D
        · rw [hbD]; obtain ⟨n, e⟩ := hl₅; exact ⟨_, e⟩
        · obtain ⟨o, e⟩ := ho₃ b hb'; exact ⟨o, hs₅' b o hbD (kp₄ b o e)⟩
      · exact fun b o a1 a2 a3 e => allk b o a1 a3 a2 (hki b o a1 a2 a3 e)
      · exact fun i' v' hi' hp' => let ⟨V', h1, h2⟩ := hPi i' v' hi' hp'; ⟨V', h1, sqH h2⟩
    · have hin : i = es.length := by omega
      subst hin
      refine W.done _ _ _ hsti fun h₂ tk₂ hk₂ => ?_
      have hk₂' : ∀ b o, b ≠ I → H.get? b = some o → h₂.get? b = some o := fun b o hb e => hk₂ b o (fun hm => hb (List.mem_singleton.mp hm)) e
      rw [List.take_length] at hits
      have hF₂ : FrameIs cenv h₀ ρ₁ (fun b => av b ∨ b = I) h₂ := hFi.step hk₂' (.inr rfl) (Ne.symm hLI) hcI h0I
      refine hK h₂ tk₂ new (hacci.at fun o e => hk₂' D o hDI e) ((hits.up fun b o hb' _ e => hk₂' b o (by rintro rfl; exact hb' (.inr rfl)) e).grow fun b hb => .inl (.inl hb)) (hF₂.grow fun b hb => .inl (.inl hb)) (fun b hb => ?_)
        fun b o a1 a2 e => hk₂' b o (by rintro rfl; rw [hI] at e; cases e) (hki b o (by rintro rfl; rw [hI] at e; cases e) a1 a2 (kp b o e))
      obtain ⟨o, e⟩ := hoi b (.inl hb)
      by_cases hbI : b = I
      · obtain ⟨o', e'⟩ := ho b hb; rw [hbI, hI] at e'; cases e'
      · exact ⟨o, hk₂' b o hbI e⟩
  exact start2_in loop fun E => W.self 0 _ _ _ hst loop

/-- the comprehension as an expression -/
theorem ev_comp2 {env : Env} {elt i1 c i2 : Expr} {x₁ x₂ : Str} {px₁ px₂ : Pos} {scope : Scope} {cl : List (Str × Addr)} {pos : Pos} {ρ ρc : Locs} (ds : List δ) (den : δ → VP) (ts : δ → Bool) (es : List ε) (den₂ : ε → VP) (g : δ → ε → VP) (K : Caps env scope cl ρ ρc)
    (hit : EvIt prog w A env (frP env h₀ ρ) i1 (ds.map den)) (hx₁ : scope.names.lookup x₁ = some .local) (hx₂ : scope.names.lookup x₂ = some .local)
    (hc : ∀ d C, d ∈ ds → Tst prog w A (compEnvC scope cl C env) (frP (compEnvC scope cl C env) h₀ ((x₁, den d) :: ρc)) c (ts d))
    (hit₂ : ∀ d C, d ∈ ds → ts d = true → EvIt prog w A (compEnvC scope cl C env) (frP (compEnvC scope cl C env) h₀ ((x₁, den d) :: ρc)) i2 (es.map den₂))
    (he : ∀ d e C, d ∈ ds → e ∈ es → Ev prog w A (compEnvC scope cl C env) (frP (compEnvC scope cl C env) h₀ ((x₂, den₂ e) :: (x₁, den d) :: ρc)) elt (g d e))
    (hf₁ : ∀ V, ∀ p ∈ ρc, List.lookup p.1 ((x₁, V) :: ρc) = some p.2) (hf₂ : ∀ V W, ∀ p ∈ (x₁, W) :: ρc, List.lookup p.1 ((x₂, V) :: (x₁, W) :: ρc) = some p.2)
    (hsz : ds.length * es.length ≤ sizeLine) (hs : ∀ x, foldedSetIterable i1 env x = pure x := by intro _; kernel_rfl!) (hs₂ : ∀ C x, foldedSetIterable i2 (compEnvC scope cl C env) x = pure x := by intro _ _; kernel_rfl!) :
    Ev prog w A env (frP env h₀ ρ) (cmp2 elt (.Name x₁ px₁) i1 c (.Name x₂ px₂) i2 scope pos) (VList ((ds.filter ts).flatMap fun d => es.map (g d))) := by
  intro s av ho hg E Q hq
  rw [eval_ListComp]
  refine wpAny_comprehension_free (use := none) rfl hs K.clos K.kind K.names (hit s av ho hg E _ fun I s₂ fp P St k hI hIe W hst hfp hfp2 hP => ?_)
  rw [List.length_map] at W hP
  obtain ⟨hF, -, -⟩ := hg
  have hcI : ∀ n, env.cells.lookup n ≠ some I := fun n hc => by obtain ⟨v, o, e, _⟩ := hF.cellAt hc; rw [hI] at e; cases e
  have h0I : h₀.get? I = none := none_of_kp hF.keep hI
  have hFI : FrameIs env h₀ ρ (fun b => av b ∨ b = I) s₂.heap := (hF.grow (grow_new hI)).up k.kp
  have hoI : Off (fun b => av b ∨ b = I) s₂.heap := fun b hb => hb.elim (fun h => ho.up k.kp b h) fun e => by rw [e]; exact hIe _ _ hst
  refine wpAny_newObj_type (wpAny_newFunctionEnv K.nocell (by intro y hy; simp at hy) (fun h₁ hns₁ hsb₁ => ?_) K.kind)
  dsimp only at hns₁ hsb₁ ⊢
  generalize hH2 : s₂.heap.push { cls := .type "list", dict := none, data := .seq ([] : List Value).toArray } = H2 at hns₁ hsb₁ ⊢
  have hC : H2.objs.size = s₂.heap.objs.size + 1 := by rw [← hH2, Heap.size_push]
  generalize hCC : H2.objs.size = C at hns₁ hsb₁ hC ⊢
  generalize hDD : s₂.heap.objs.size = D at hC ⊢
  have hDC : D ≠ C := by rw [hC]; exact Nat.ne_of_lt (Nat.lt_succ_self _)
  have below : ∀ b, b < s₂.heap.objs.size → b ≠ C ∧ b ≠ D := fun b hb => ⟨by rw [hC, ← hDD]; exact Nat.ne_of_lt (Nat.lt_succ_of_lt hb), by rw [← hDD]; exact Nat.ne_of_lt hb⟩
  have hDf : D ∉ fp := fun hm => by have := hfp _ hm; rw [hDD] at this; exact Nat.lt_irrefl _ this
  have hCf : C ∉ fp := fun hm => by have := hfp _ hm; rw [hDD, hC] at this; exact Nat.lt_irrefl _ (Nat.lt_of_succ_lt this)
  have old : Kp s₂.heap h₁ := fun b o e => hsb₁.extBut b o (below b (Heap.lt_size e)).1 (Heap.get?_push_of_some _ (hH2 ▸ Heap.get?_push_of_some _ e))
  have hacc : h₁.PlainList D #[] := ⟨_, hsb₁.extBut _ _ hDC (Heap.get?_push_of_some _ (hH2 ▸ hDD ▸ Heap.get?_push_size _ rfl))⟩
  have hst₁ : St 0 h₁ := W.frame _ _ _ hst fun b _ o e => old b o e
  have hDn : s₂.heap.get? D = none := hDD ▸ new_none _
  have hCn : s₂.heap.get? C = none := by
    cases e : s₂.heap.get? C with
    | none => rfl
    | some o' => exact absurd (Heap.lt_size e) (by rw [hDD, hC]; exact Nat.not_lt.mpr (Nat.le_succ _))
  have hDI : D ≠ I := by rintro rfl; obtain ⟨o, e⟩ := hIe _ _ hst; rw [hDn] at e; cases e
  have hCI : C ≠ I := by rintro rfl; obtain ⟨o, e⟩ := hIe _ _ hst; rw [hCn] at e; cases e
  have hD0 : h₀.get? D = none := none_of_kp hFI.keep hDn
  have hcD : ∀ n, (compEnvC scope cl C env).cells.lookup n ≠ some D := fun n hc => by
    obtain ⟨v, o, e, _⟩ := hFI.cellAt (K.cells n D hc); rw [hDn] at e; cases e
  have hcI' : ∀ n, (compEnvC scope cl C env).cells.lookup n ≠ some I := fun n hc => hcI n (K.cells n I hc)
  have hlen2 : ∀ l : List δ, (l.flatMap fun d => es.map (g d)).length = l.length * es.length := fun l => by
    induction l with
    | nil => simp
    | cons d r ih => simp [List.flatMap_cons, ih, Nat.succ_mul]; omega
  have loop : ∀ s₃ : Shared, s₃ = { s₂ with heap := h₁, toks := s₂.toks + ([] : List (Str × Value)).length } →
      codeAny (model prog w) A (.compLoop (cmp2 elt (.Name x₁ px₁) i1 c (.Name x₂ px₂) i2 scope pos) 0 (.ref I) (.ref D) (compEnvC scope cl C env)) (compPost (model prog w) A E none Q (.ref D) C) s₃ := by
    rintro s₃ rfl
    refine loop2_out (fun j s' => ∃ h' tk ys i, s' = { s₂ with heap := h', toks := tk } ∧ i ≤ ds.length ∧ j = ds.length + 1 - i ∧ St i h' ∧ h'.PlainList D ys ∧ Items (fun b => (av b ∨ b = I) ∨ b = D) h' ys.toList (((ds.take i).filter ts).flatMap fun d => es.map (g d)) ∧
        FrameIs (compEnvC scope cl C env) h₀ ρc (fun b => (av b ∨ b = I) ∨ b = D) h' ∧ Off (fun b => (av b ∨ b = I) ∨ b = D) h' ∧ (∀ b o, b ≠ I → s₂.heap.get? b = some o → h'.get? b = some o) ∧
        (∀ i v, i < ds.length → P i v → ∃ V, (ds.map den)[i]? = some V ∧ V.P (fun b => (av b ∨ b = I) ∨ b = D) h' v)) (hs₂ C) ?_ (ds.length + 1)
      ⟨h₁, _, #[], 0, rfl, Nat.zero_le _, rfl, hst₁, hacc, (by rw [List.take_zero]; exact Paired.nil), comp_frame K (hFI.grow (grow_new hDn)) old hns₁ (by rw [hDD, hC]; exact Nat.le_succ _),
        (fun b hb => hb.elim (fun h => hoI.up old b h) fun e => by rw [e]; obtain ⟨n, e⟩ := hacc; exact ⟨_, e⟩), fun b o _ e => old b o e,
        fun i v hi hp => let ⟨V, h1, h2⟩ := hP i v hi hp; ⟨V, h1, V.up (V.grow h2 (grow_new hDn)) (Kp.sqk old)⟩⟩
    rintro j s' ⟨H, tk, ys, i, rfl, hi, rfl, hsti, hacci, hits, hFi, hoi, hki, hPi⟩ E'
    by_cases hlt : i < ds.length
    · refine W.item i _ _ _ hlt hsti fun v h₂ tk₂ hPv hst₂ hk₂ => ?_
      have hk₂' : ∀ b o, b ≠ I → H.get? b = some o → h₂.get? b = some o := fun b o hb e => hk₂ b o (fun hm => hb (List.mem_singleton.mp hm)) e
      obtain ⟨V, hV, hVv⟩ := hPi i v hlt hPv
      obtain ⟨d, hdd⟩ := get_of_lt hlt
      have hdm := List.mem_of_getElem? hdd
      rw [List.getElem?_map, hdd] at hV
      obtain rfl := Option.some.inj hV
      refine wpAny_pure ?_
      have hF₂ : FrameIs (compEnvC scope cl C env) h₀ ρc (fun b => (av b ∨ b = I) ∨ b = D) h₂ := hFi.step hk₂' (.inl (.inr rfl)) (Ne.symm hCI) hcI' h0I
      have ho₂ : Off (fun b => (av b ∨ b = I) ∨ b = D) h₂ := fun b hb => by
        by_cases hbI : b = I
        · rw [hbI]; exact hIe _ _ hst₂
        · obtain ⟨o, e⟩ := hoi b hb; exact ⟨o, hk₂' b o hbI e⟩
      have up₂ : ∀ {W : VP} {u}, W.P (fun b => (av b ∨ b = I) ∨ b = D) H u → W.P (fun b => (av b ∨ b = I) ∨ b = D) h₂ u := fun {W u} p => W.up p fun b o hb _ e => hk₂' b o (by rintro rfl; exact hb (.inl (.inr rfl))) e
      refine binds_name (cenv := compEnvC scope cl C env) (x := x₁) K.kind (lookup_relabel_local hx₁) { s₂ with heap := h₂, toks := tk₂ } _ v ho₂ hF₂ (up₂ hVv) _ _ fun h₃ tk₃ hF₃ ho₃ hk₃ => ?_
      refine hc d C hdm { s₂ with heap := h₃, toks := tk₃ } _ ho₃ ⟨hF₃, trivial, fun _ h => h.elim⟩ _ _ fun ok s₄ hok k₄ => ?_
      obtain ⟨h₄, tk₄, rfl, kp₄⟩ := k₄
      subst hok
      have hF₄ := hF₃.up kp₄
      have ho₄ := ho₃.up kp₄
      have hacc₄ : h₄.PlainList D ys := hacci.at fun o e => kp₄ _ o (hk₃ D o hDC (hk₂' D o hDI e))
      obtain ⟨oC, esC, epC, hoC, hdC⟩ := hFi.locals
      have k₂₄ : ∀ b o, b ≠ I → b ≠ C → H.get? b = some o → h₄.get? b = some o := fun b o a1 a2 e => kp₄ b o (hk₃ b o a2 (hk₂' b o a1 e))
      have htake : ds.take (i + 1) = ds.take i ++ [d] := by rw [List.take_add_one, hdd]; rfl
      have hyl : ys.size ≤ i * es.length := by
        have h1 := hits.length
        rw [hlen2, Array.length_toList] at h1
        rw [h1]
        refine Nat.mul_le_mul_right _ (Nat.le_trans (List.length_filter_le _ _) ?_)
        rw [List.length_take]; exact Nat.min_le_left _ _
      cases ht : ts d with
      | false =>
        simp only [Bool.false_eq_true, if_false]
        have sqH : ∀ {W : VP} {u}, W.P (fun b => (av b ∨ b = I) ∨ b = D) H u → W.P (fun b => (av b ∨ b = I) ∨ b = D) h₄ u := fun {W u} p => W.up p fun b o hb ⟨xs, n, hd⟩ e =>
          k₂₄ b o (by rintro rfl; exact hb (.inl (.inr rfl))) (by rintro rfl; change H.get? b = _ at hoC; rw [hoC] at e; cases e; rw [hdC] at hd; cases hd) e
        refine ⟨ds.length + 1 - (i + 1), by omega, h₄, tk₄, ys, i + 1, rfl, hlt, rfl, ?_, hacc₄, ?_, hF₄.sub (hf₁ _), ho₄, ?_, ?_⟩
        · exact W.frame _ _ _ hst₂ fun b hb' o e => kp₄ b o (hk₃ b o (fun (h : b = C) => hCf (h ▸ hb')) e)
        · rw [htake, List.filter_append, show [d].filter ts = [] by simp [ht], List.append_nil]
          exact Paired.imp (fun _ _ p => sqH p) hits
        · exact fun b o a1 e => k₂₄ b o a1 (below b (Heap.lt_size e)).1 (hki b o a1 e)
        · exact fun i' v' hi' hp' => let ⟨V', h1, h2⟩ := hPi i' v' hi' hp'; ⟨V', h1, sqH h2⟩
      | true =>
        simp only [if_true]
        refine inner2 (cenv := compEnvC scope cl C env) (s := { s₂ with heap := h₄, toks := tk₄ }) es den₂ (g d) K.kind (lookup_relabel_local hx₂) (hit₂ d C hdm ht) (fun e hm => he d e C hdm hm) (fun V => hf₂ V _) hDC hcD hD0 ho₄ (.inr rfl) hF₄ hacc₄ ?_ fun h₅ tk₅ new hl₅ hits₅ hF₅ ho₅ hk₅ => ?_
        · have : (i + 1) * es.length ≤ ds.length * es.length := Nat.mul_le_mul_right _ hlt
          rw [Nat.succ_mul] at this; omega
        have sqH : ∀ {W : VP} {u}, W.P (fun b => (av b ∨ b = I) ∨ b = D) H u → W.P (fun b => (av b ∨ b = I) ∨ b = D) h₅ u := fun {W u} p => W.up p fun b o hb ⟨xs, n, hd⟩ e => by
          have hbC : b ≠ C := by rintro rfl; change H.get? b = _ at hoC; rw [hoC] at e; cases e; rw [hdC] at hd; cases hd
          exact hk₅ b o (by rintro rfl; exact hb (.inr rfl)) hbC (k₂₄ b o (by rintro rfl; exact hb (.inl (.inr rfl))) hbC e)
        refine ⟨ds.length + 1 - (i + 1), by omega, h₅, tk₅, ys ++ new.toArray, i + 1, rfl, hlt, rfl, ?_, hl₅, ?_, hF₅.sub (hf₁ _), ho₅, ?_, ?_⟩
        · exact W.frame _ _ _ hst₂ fun b hb' o e => hk₅ b o (fun h => hDf (h ▸ hb')) (fun (h : b = C) => hCf (h ▸ hb')) (kp₄ b o (hk₃ b o (fun (h : b = C) => hCf (h ▸ hb')) e))
        · rw [htake, List.filter_append, show [d].filter ts = [d] by simp [ht], List.flatMap_append, show (ys ++ new.toArray).toList = ys.toList ++ new by simp]
          refine Paired.append (Paired.imp (fun _ _ p => sqH p) hits) ?_
          rw [List.flatMap_cons, List.flatMap_nil, List.append_nil]
          exact hits₅
        · exact fun b o a1 e => hk₅ b o (below b (Heap.lt_size e)).2 (below b (Heap.lt_size e)).1 (k₂₄ b o a1 (below b (Heap.lt_size e)).1 (hki b o a1 e))
        · exact fun i' v' hi' hp' => let ⟨V', h1, h2⟩ := hPi i' v' hi' hp'; ⟨V', h1, sqH h2⟩
    · have hin : i = ds.length := by omega
      subst hin
      refine W.done _ _ _ hsti fun h₂ tk₂ hk₂ => ?_
      have hk₂' : ∀ b o, b ≠ I → H.get? b = some o → h₂.get? b = some o := fun b o hb e => hk₂ b o (fun hm => hb (List.mem_singleton.mp hm)) e
      have hF₂ : FrameIs (compEnvC scope cl C env) h₀ ρc (fun b => (av b ∨ b = I) ∨ b = D) h₂ := hFi.step hk₂' (.inl (.inr rfl)) (Ne.symm hCI) hcI' h0I
      obtain ⟨m₂, F₂, _, _⟩ := hF₂
      rw [List.take_length] at hits
      refine ⟨m₂, F₂.ns, fun h'' hs'' => ?_⟩
      obtain ⟨oC, esC, epC, hoC, hdC, _⟩ := id F₂.ns
      have hDs : s.heap.get? D = none := none_of_kp k.kp hDn
      have hCs : s.heap.get? C = none := none_of_kp k.kp hCn
      have kk : Kp s.heap h₂ := fun b o e => hk₂' b o (by rintro rfl; rw [hI] at e; cases e) (hki b o (by rintro rfl; rw [hI] at e; cases e) (k.kp b o e))
      have kk' : Kp s.heap h'' := fun b o e => hs''.extBut b o (by rintro rfl; rw [hCs] at e; cases e) (kk b o e)
      have hl' : h''.PlainList D ys := (hacci.at fun o e => hk₂' D o hDI e).extBut hs''.extBut hDC
      have hits₂ := hits.up (h' := h₂) fun b o hb' _ e => hk₂' b o (by rintro rfl; exact hb' (.inl (.inr rfl))) e
      have sq : SqK (fun b => (av b ∨ b = I) ∨ b = D) h₂ h'' := fun b o _ ⟨xs, n, hd⟩ e => hs''.extBut b o (by rintro rfl; change h₂.get? b = _ at hoC; rw [hoC] at e; cases e; rw [hdC] at hd; cases hd) e
      obtain ⟨hk₁, tk₁, rfl, _⟩ := k
      exact hq _ _ ⟨D, ys.toList, rfl, Off.fresh ho hDs, by simpa using hl'.isList, ((hits₂.up sq).grow fun b hb => .inl (.inl (.inl hb)))⟩ (Kps.of kk')
  exact codeAny_compStart_list (loop _ rfl) (W.self 0 _ _ _ hst₁ (loop _ rfl))
end
end Mine

end
section
namespace Mine

theorem Ev.imp {prog : Program} {w : World} {A : Around} {env : Env} {G : HP} {e : Expr} {V W : VP} (h : Ev prog w A env G e V) (hi : ∀ av hp v, V.P av hp v → W.P av hp v) : Ev prog w A env G e W :=
  fun s av ho hg E Q hq => h s av ho hg E Q fun v s₁ hv k₁ => hq v s₁ (hi _ _ _ hv) k₁

-- a star among the arguments
section
variable {prog : Program} {w : World} {A : Around} {env : Env} {G : HP}
theorem ae_star {pos p : Pos} {e : Expr} {rest : List Expr} {Us Vs : List VP} (h : Ev prog w A env G e (VList Us)) (hr : ArgsEv prog w A env G pos rest Vs) (hsz : Us.length ≤ sizeLine)
    (he : starEach (.Starred e p :: rest) env = (true, eval e env) :: starEach rest env := by kernel_rfl!) : ArgsEv prog w A env G pos (.Starred e p :: rest) (Us ++ Vs) := by
  intro s av ho hg E Q hq
  refine items_star (h s av ho hg E _ fun v s₁ hv k₁ => ?_) he
  obtain ⟨l, us, rfl, hav, hl, hi⟩ := hv
  obtain ⟨o, h1, hc, n, hd⟩ := id hl
  unfold StarOf notIterableAtAll
  refine wpAny_bind (wpAny_specialOf hl.typeIs PySem.F.slot_list_iter.lookup (wpAny_pure ⟨rfl, ?_⟩))
  refine wpAny_collect_seq l (.inl rfl) h1 hc hd (fun h' hk => ?_) (by rw [List.size_toArray, hi.length]; exact hsz)
  have k₂ : Kps s₁ { s₁ with heap := h' } := ⟨h', s₁.toks, rfl, hk⟩
  have k := k₁.trans k₂
  refine hr _ av (ho.up k.kp) (G.up hg k.kp) E _ fun vs s₃ hvs k₃ => hq _ _ ?_ (k.trans k₃)
  rw [show us.toArray.toList = us by simp]
  exact Paired.append ((hi.up k₂.sqk).up k₃.sqk) hvs

/-- a or b, both truths -/
theorem ev_or {e₁ e₂ : Expr} {pos : Pos} {b c : Bool} (h₁ : Ev prog w A env G e₁ (VBool b)) (h₂ : Ev prog w A env G e₂ (VBool c)) : Ev prog w A env G (.BoolOp .Or [e₁, e₂] pos) (VBool (b || c)) := by
  intro s av ho hg E Q hq
  refine BoolOp_or (h₁ s av ho hg E _ fun v s₁ hv k₁ => ?_)
  obtain rfl : v = .bool b := hv
  refine wpAny_truthy_bool ?_
  cases b with
  | true => exact hq _ _ rfl k₁
  | false => exact BoolOp_one (h₂ s₁ av (ho.up k₁.kp) (G.up hg k₁.kp) E _ fun v s₂ hv k₂ => hq v s₂ hv (k₁.trans k₂))
end

-- unequal
section
variable {prog : Program} {w : World} {A : Around} {s : Shared} {av : Addr → Prop}
theorem readsAll_strs {h : Heap} : ∀ {vs : List Value} {xs : List Str}, Items av h vs (xs.map VStr) → ReadsAll h vs (xs.map PyData.str) []
  | _, [], .nil => .nil
  | _, x :: xs, .cons hv r => by obtain ⟨t, rfl⟩ := hv; exact .cons (as := []) (bs := []) (.str x t) (readsAll_strs r)
theorem reads_strs {xs : List Str} {v : Value} (h : (VList (xs.map VStr)).P av s.heap v) : ∃ as, Reads s.heap v (.list (xs.map PyData.str)) as := by
  obtain ⟨l, us, rfl, _, ⟨o, h1, hc, n, hd⟩, hi⟩ := h
  exact ⟨_, .list h1 hc hd (readsAll_strs (by simpa using hi))⟩
theorem sameAll_strs : ∀ (xs ys : List Str), PySem.Spec.sameAll (xs.map PyData.str) (ys.map PyData.str) = decide (xs = ys)
  | [], [] => rfl
  | [], _ :: _ => rfl
  | _ :: _, [] => rfl
  | x :: xs, y :: ys => by
    show (x == y && PySem.Spec.sameAll (xs.map PyData.str) (ys.map PyData.str)) = _
    rw [sameAll_strs xs ys, Bool.eq_iff_iff]
    simp
theorem noMix_strs : ∀ (xs ys : List Str), PySem.SeqAt.noMixAll (xs.map PyData.str) (ys.map PyData.str) = true
  | [], [] => rfl
  | [], _ :: _ => rfl
  | _ :: _, [] => rfl
  | x :: xs, y :: ys => by
    show (true && PySem.SeqAt.noMixAll (xs.map PyData.str) (ys.map PyData.str)) = true
    rw [noMix_strs xs ys]; rfl
theorem canLay_strs : ∀ (xs : List Str), (∀ x ∈ xs, PyData.strOk x = true) → PyData.canLayAll0 (xs.map PyData.str) = true
  | [], _ => rfl
  | x :: xs, h => by
    show (PyData.canLay0 (.str x) && PyData.canLayAll0 (xs.map PyData.str)) = true
    rw [canLay_strs xs fun y hy => h y (List.mem_cons_of_mem _ hy), Bool.and_true]
    exact h x (List.mem_cons_self ..)
theorem depth_strs : ∀ (xs : List Str), PyData.depthAll (xs.map PyData.str) = 0
  | [] => rfl
  | x :: xs => by
    show max 0 (PyData.depthAll (xs.map PyData.str)) = 0
    rw [depth_strs xs]; rfl
theorem shaped_strs {xs : List Str} (h : ∀ x ∈ xs, PyData.strOk x = true) : PySem.SeqAt.shaped (.list (xs.map PyData.str)) = true := by
  unfold PySem.SeqAt.shaped
  show (PyData.canLayAll0 (xs.map PyData.str) && decide (PyData.depthAll (xs.map PyData.str) + 1 ≤ 64)) = true
  rw [canLay_strs xs h, depth_strs]; rfl
/-- lists of texts -/
theorem op_neSL {xs ys : List Str} {a b : Value} (hu : A.units + 64 < cLine) (hx : ∀ x ∈ xs, PyData.strOk x = true) (hy : ∀ y ∈ ys, PyData.strOk y = true) (ha : (VList (xs.map VStr)).P av s.heap a) (hb : (VList (ys.map VStr)).P av s.heap b) :
    Op prog w A (compareOp .NotEq a b) s ((VBool (!decide (xs = ys))).P av) := by
  obtain ⟨as, ra⟩ := reads_strs ha
  obtain ⟨bs, rb⟩ := reads_strs hb
  intro E Q hq
  refine ne_dataH_same ra rb (shaped_strs hx) (shaped_strs hy) hu (noMix_strs xs ys) ?_
  refine hq _ _ ?_ (Kps.refl _)
  show Value.bool _ = Value.bool _
  rw [← sameAll_strs]; rfl
/-- truths -/
theorem op_neB {x y : Bool} {a b : Value} (hu : A.units + 64 < cLine) (ha : (VBool x).P av s.heap a) (hb : (VBool y).P av s.heap b) : Op prog w A (compareOp .NotEq a b) s ((VBool (x != y)).P av) := by
  obtain rfl : a = .bool x := ha
  obtain rfl : b = .bool y := hb
  intro E Q hq
  refine ne_dataH_same (.bool x) (.bool y) rfl rfl hu rfl ?_
  exact hq _ _ rfl (Kps.refl _)
end

-- a list of the frame's own, that may be appended to
/-- a list that is younger than h₀ -/
def VOwn (h₀ : Heap) (Vs : List VP) : VP where
  P := fun av h v => ∃ a vs, v = .ref a ∧ ¬ av a ∧ h₀.get? a = none ∧ h.PlainList a vs.toArray ∧ Items av h vs Vs
  up := by
    rintro av h h' v ⟨a, vs, e, ha, h0, ⟨n, ho⟩, hi⟩ k
    exact ⟨a, vs, e, ha, h0, ⟨n, k a _ ha ⟨_, n, rfl⟩ ho⟩, hi.up k⟩
  grow := by
    rintro av av' h v ⟨a, vs, e, ha, h0, hl, hi⟩ k
    refine ⟨a, vs, e, (fun hb => (k a hb).elim ha fun hn => ?_), h0, hl, hi.grow k⟩
    obtain ⟨n, ho⟩ := hl; rw [hn] at ho; cases ho
theorem own_list {h₀ : Heap} {Vs : List VP} : ∀ av hp v, (VOwn h₀ Vs).P av hp v → (VList Vs).P av hp v := fun _ _ _ ⟨a, vs, e, ha, _, hl, hi⟩ => ⟨a, vs, e, ha, hl.isList, hi⟩

/-- a V does not lean on a list that holds Ws -/
def Sep (Ws : List VP) (V : VP) : Prop := ∀ (av : Addr → Prop) (h : Heap) (v : Value) (I : Addr) (vs : List Value), ¬ av I → h.PlainList I vs.toArray → Items av h vs Ws → V.P av h v → V.P (fun b => av b ∨ b = I) h v
theorem sep_int {Ws : List VP} {i : Int} : Sep Ws (VInt i) := fun _ _ _ _ _ _ _ _ h => h
theorem sep_str {Ws : List VP} {x : Str} : Sep Ws (VStr x) := fun _ _ _ _ _ _ _ _ h => h
theorem sep_bool {Ws : List VP} {x : Bool} : Sep Ws (VBool x) := fun _ _ _ _ _ _ _ _ h => h
theorem plain_inj {h : Heap} {I : Addr} {vs us : Array Value} (h1 : h.PlainList I vs) (h2 : h.IsList I us) : vs = us := by
  obtain ⟨n, e⟩ := h1
  obtain ⟨o, e', _, m, d⟩ := h2
  rw [e] at e'
  cases e'
  cases d
  rfl
theorem items_sep {Ws : List VP} {av : Addr → Prop} {h : Heap} {I : Addr} {vs : List Value} (hI : ¬ av I) (hpl : h.PlainList I vs.toArray) (hits : Items av h vs Ws) : ∀ {us : List Value} {Us : List VP}, (∀ U ∈ Us, Sep Ws U) → Items av h us Us → Items (fun b => av b ∨ b = I) h us Us
  | _, _, _, .nil => .nil
  | _, _, hs, .cons hu r => .cons (hs _ (List.mem_cons_self ..) av h _ I vs hI hpl hits hu) (items_sep hI hpl hits (fun U hU => hs U (List.mem_cons_of_mem _ hU)) r)
theorem sep_list {Ws Us : List VP} (hne : ∀ av h vs, Items av h vs Ws → Items av h vs Us → False) (hs : ∀ U ∈ Us, Sep Ws U) : Sep Ws (VList Us) := by
  rintro av h v I vs hI hpl hits ⟨a, us, rfl, ha, hl, hi⟩
  refine ⟨a, us, rfl, ?_, hl, items_sep hI hpl hits hs hi⟩
  rintro (h1 | rfl)
  · exact ha h1
  · have := plain_inj hpl hl
    have e : vs = us := by simpa using this
    subst e
    exact hne _ _ _ hits hi
theorem sep_own {h₀ : Heap} {Ws Us : List VP} (hne : ∀ av h vs, Items av h vs Ws → Items av h vs Us → False) (hs : ∀ U ∈ Us, Sep Ws U) : Sep Ws (VOwn h₀ Us) := by
  rintro av h v I vs hI hpl hits ⟨a, us, rfl, ha, h0, hl, hi⟩
  refine ⟨a, us, rfl, ?_, h0, hl, items_sep hI hpl hits hs hi⟩
  rintro (h1 | rfl)
  · exact ha h1
  · have := plain_inj hpl hl.isList
    have e : vs = us := by simpa using this
    subst e
    exact hne _ _ _ hits hi
theorem ne_len {Ws Us : List VP} (h : Ws.length ≠ Us.length) : ∀ av h vs, Items av h vs Ws → Items av h vs Us → False := fun _ _ _ h1 h2 => h (h1.length.symm.trans h2.length)

section
variable {prog : Program} {w : World} {A : Around} {env : Env} {h₀ : Heap} {ρ ρ' : Locs} {V : VP} {Ws : List VP}

theorem FrameIs.sepd {av : Addr → Prop} {h : Heap} {I : Addr} {vs : List Value} (hF : FrameIs env h₀ ρ av h) (hI : ¬ av I) (hpl : h.PlainList I vs.toArray) (hits : Items av h vs Ws) (hs : ∀ p ∈ ρ, Sep Ws p.2) : FrameIs env h₀ ρ (fun b => av b ∨ b = I) h := by
  obtain ⟨m, F, Vs, C⟩ := hF
  exact ⟨m, F, fun x V hx => let ⟨v, hv, h1⟩ := Vs x V hx; ⟨v, hs (x, V) (mem_of_lookup hx) av h v I vs hI hpl hits hv, h1⟩, C⟩

/-- the statements take ρ to ρ' and go on; elder lists of the frame's own may have turned -/
def HW (prog : Program) (w : World) (A : Around) (env : Env) (h₀ : Heap) (ρ : Locs) (t : Sem Flow) (ρ' : Locs) : Prop :=
  ∀ (s : Shared) (av : Addr → Prop), Off av s.heap → FrameIs env h₀ ρ av s.heap → ∀ (E : Value → Shared → Prop) (Q : Flow → Shared → Prop),
    (∀ h' tk, FrameIs env h₀ ρ' av h' → Off av h' → Q .next { s with heap := h', toks := tk }) → wpAny (model prog w) A t Q E s
def HWR (prog : Program) (w : World) (A : Around) (env : Env) (h₀ : Heap) (ρ : Locs) (t : Sem Flow) (V : VP) : Prop :=
  ∀ (s : Shared) (av : Addr → Prop), Off av s.heap → FrameIs env h₀ ρ av s.heap → ∀ (E : Value → Shared → Prop) (Q : Flow → Shared → Prop),
    (∀ v h' tk, V.P av h' v → Kp h₀ h' → Q (.ret v) { s with heap := h', toks := tk }) → wpAny (model prog w) A t Q E s
theorem HT.hw {t : Sem Flow} (h : HT prog w A env h₀ noMd ρ noX t ρ' noX) : HW prog w A env h₀ ρ t ρ' := fun s av ho hF E Q hq => h s av (fun _ h => h.elim) ho hF trivial E Q fun s' hF' _ ho' mv => by
  obtain ⟨h', tk, rfl, _⟩ := mv
  exact hq h' tk hF' ho'
theorem HR.hw {t : Sem Flow} (h : HR prog w A env h₀ noMd ρ noX t V) : HWR prog w A env h₀ ρ t V := fun s av ho hF E Q hq => h s av (fun _ h => h.elim) ho hF trivial E Q fun v s' hv hk mv => by
  obtain ⟨h', tk, rfl, _⟩ := mv
  exact hq v h' tk hv hk
theorem hw_cons {ρ₁ : Locs} {st : Stmt} {rest : List Stmt} (h₁ : HW prog w A env h₀ ρ (exec st env) ρ₁) (h₂ : HWR prog w A env h₀ ρ₁ (execs rest env) V) : HWR prog w A env h₀ ρ (execs (st :: rest) env) V :=
  fun s av ho hF E Q hq => wpAny_execs_cons (h₁ s av ho hF E _ fun h' tk hF' ho' => h₂ { s with heap := h', toks := tk } av ho' hF' E Q fun v h'' tk' hv hk => hq v h'' tk' hv hk)

/-- r.append(e), r a list of the frame's own -/
theorem ht_appendOwn {r : Str} {np apos pos epos : Pos} {elt : Expr} (f : Fx env h₀ noMd) (hr : ρ.lookup r = some (VOwn h₀ Ws)) (he : Ev prog w A env (frP env h₀ ρ) elt V)
    (hρ : ∀ p ∈ ρ', ρ.lookup p.1 = some p.2 ∧ Sep Ws p.2 ∧ (p.1 == r) = false) (hV : Sep Ws V) (hW : ∀ W ∈ Ws, Sep Ws W) (hsz : Ws.length ≤ 1000)
    (hd : (r == ("__debug__" : Str)) = false := by kernel_rfl!) (hbase : attributeBase (.Name r np) "append" env (eval (.Name r np) env) = eval (.Name r np) env := by kernel_rfl!)
    (hfew : ((backTo pos (starEach [elt] env)).all (fun x => !x.1) && (backToKw pos (keywordEach [] env)).all (fun x => x.1.isSome)
      && decide (([elt] : List Expr).length + ([] : List Keyword).length + (if ([] : List Keyword).isEmpty then 0 else 1) < 30)) = true := by kernel_rfl!)
    (hline : (apos.endLine == pos.line) = true := by kernel_rfl!) (htrees : backTo pos (starEach [elt] env) = [(false, eval elt env)] := by kernel_rfl!)
    (hi : interactive env = false := by kernel_rfl!) (hs : swapsWith (.Call (.Attribute (.Name r np) "append" apos) [elt] [] pos) none epos.line env = pure false := by kernel_rfl!) :
    HW prog w A env h₀ ρ (exec (.Expr (.Call (.Attribute (.Name r np) "append" apos) [elt] [] pos) epos) env) ((r, VOwn h₀ (Ws ++ [V])) :: ρ') := by
  intro s av ho hF E Q hq
  have hm : ∀ b, noMd b → av b := fun _ h => h.elim
  obtain ⟨m, F, Vs, Cs⟩ := id hF
  obtain ⟨v, ⟨I, vs, rfl, hI, h0I, hpl, hits⟩, hvar⟩ := Vs r _ hr
  have hF1 : FrameIs env h₀ ((r, VRef I) :: ρ) av s.heap := ⟨m, F, fun y W hy => by
    by_cases hyx : y = r
    · subst hyx
      rw [List.lookup_cons_self] at hy
      obtain rfl := Option.some.inj hy
      exact ⟨.ref I, rfl, hvar⟩
    · rw [List.lookup_cons, show (y == r) = false by simpa using hyx] at hy
      exact Vs y W hy, Cs⟩
  refine wpAny_Expr (wpAny_Call_append hbase hfew hline htrees (ev_name (X := noX) (hX := onNo) f.kind (ρ := (r, VRef I) :: ρ) (V := VRef I) List.lookup_cons_self hd s av ho ⟨hF1, trivial, hm⟩ E _ fun ov s₁ hov k₁ => ?_)) hi hs
  obtain rfl : ov = .ref I := hov
  have hvs : s₁.heap.PlainList I vs.toArray := hpl.at fun o e => k₁.kp _ _ e
  obtain ⟨n₁, e₁⟩ := id hvs
  refine ⟨I, vs.toArray, rfl, ⟨_, n₁, e₁, rfl, rfl, rfl⟩, ?_⟩
  refine he s₁ av (ho.up k₁.kp) ⟨hF.up k₁.kp, trivial, hm⟩ E _ fun y s₂ hy k₂ => ?_
  have k := k₁.trans k₂
  have hvs₂ : s₂.heap.PlainList I vs.toArray := hvs.at fun o e => k₂.kp _ _ e
  have hits₂ : Items av s₂.heap vs Ws := hits.up k.sqk
  refine wpAny_list_append_plain hvs₂ (fun h' hl' hs' => ?_) (by rw [List.size_toArray, hits.length, sizeLine_eq]; omega)
  have hk' : ∀ b o, b ≠ I → s₂.heap.get? b = some o → h'.get? b = some o := fun b o hb e => hs'.extBut b o hb e
  obtain ⟨oL, esL, epL, hoL, hdL⟩ := hF.locals
  obtain ⟨nI, eI⟩ := id hpl
  have hIL : I ≠ env.locals := by rintro h; rw [← h, eI] at hoL; cases hoL; cases hdL
  have hIc : ∀ n, env.cells.lookup n ≠ some I := fun n hc => by obtain ⟨u, o, e, d⟩ := hF.cellAt hc; rw [eI] at e; cases e; cases d
  have hF2 : FrameIs env h₀ ((r, VRef I) :: ρ') (fun b => av b ∨ b = I) s₂.heap := by
    refine FrameIs.sepd (Ws := Ws) ((hF1.up k.kp).sub fun p hp => ?_) hI hvs₂ hits₂ fun p hp => ?_
    · rcases List.mem_cons.mp hp with rfl | hp
      · exact List.lookup_cons_self
      · obtain ⟨h1, _, h3⟩ := hρ p hp
        rw [List.lookup_cons, h3]; exact h1
    · rcases List.mem_cons.mp hp with rfl | hp
      · exact fun _ _ _ _ _ _ _ _ h => h
      · exact (hρ p hp).2.1
  have hF3 := hF2.step hk' (.inr rfl) hIL hIc h0I
  have sq : SqK (fun b => av b ∨ b = I) s₂.heap h' := fun b o hb _ e => hk' b o (fun h => hb (.inr h)) e
  have hits3 : Items (fun b => av b ∨ b = I) h' (vs ++ [y]) (Ws ++ [V]) :=
    Paired.append ((items_sep hI hvs₂ hits₂ hW hits₂).up sq) (.cons (V.up (hV av _ y I vs hI hvs₂ hits₂ hy) sq) .nil)
  have k₀ := k.kp
  obtain ⟨h2, t2, rfl, _⟩ := k
  refine hq h' t2 ((hF3.grow fun b hb => .inl (.inl hb)).conv fun v hv => ?_) fun b hb => ?_
  · obtain rfl : v = .ref I := hv
    exact ⟨I, vs ++ [y], rfl, hI, h0I, by simpa using hl', hits3.grow fun b hb => .inl (.inl hb)⟩
  · by_cases hbI : b = I
    · rw [hbI]; obtain ⟨n, e⟩ := hl'; exact ⟨_, e⟩
    · obtain ⟨o, e⟩ := (ho.up k₀) b hb; exact ⟨o, hk' b o hbI e⟩
end
end Mine

end
section
namespace Mine
/-- the same as EvIt, over a list -/
def EvItQ (prog : Program) (w : World) (A : Around) (env : Env) (G : HP) (iter : Expr) (Vs : List VP) : Prop :=
  ∀ (s : Shared) (av : Addr → Prop), Off av s.heap → G.P av s.heap → ∀ (E : Value → Shared → Prop) (Q : Value → Shared → Prop),
    (∀ (I : Addr) (s' : Shared) (fp : List Addr) (P : Nat → Value → Prop) (St : Nat → Heap → Prop), Kps s s' → s.heap.get? I = none → (∀ i h, St i h → ∃ o, h.get? I = some o) → Walks prog w A I fp [I] Vs.length P St → St 0 s'.heap →
      (∀ b ∈ fp, b < s'.heap.objs.size) → (∀ b ∈ fp, b = I ∨ ((∃ o, s'.heap.get? b = some o ∧ ∃ xs n, o.data = .seq xs n) ∧ ¬ av b)) → (∀ i v, i < Vs.length → P i v → ∃ V, Vs[i]? = some V ∧ V.P (fun b => av b ∨ b = I) s'.heap v) → (∀ i h, St i h → ∃ l j, h.IsListIter I l j) → Q (.ref I) s') →
    wpAny (model prog w) A (eval iter env) (fun xv s₁ => wpAny (model prog w) A (pyIter xv) Q E s₁) E s

section
variable {prog : Program} {w : World} {A : Around} {env : Env} {G : HP}
theorem it_listQ {iter : Expr} {Vs : List VP} (hh : A.handled = none) (h : Ev prog w A env G iter (VList Vs)) : EvItQ prog w A env G iter Vs := by
  intro s av ho hg E Q hq
  refine h s av ho hg E _ fun xv s₁ hv k₁ => ?_
  obtain ⟨a, vs, rfl, hav, hl, hi⟩ := hv
  refine wpAny_pyIter_list hl ?_
  have hlt : a < s₁.heap.objs.size := by obtain ⟨o, e, _⟩ := id hl; exact Heap.lt_size e
  have hlen : vs.toArray.size = Vs.length := by rw [List.size_toArray]; exact hi.length
  have W := Walks.list (prog := prog) (w := w) hh s₁.heap.objs.size a (Nat.ne_of_lt hlt) vs.toArray
  rw [hlen] at W
  have hn : s.heap.get? s₁.heap.objs.size = none := by
    cases e : s.heap.get? s₁.heap.objs.size with
    | none => rfl
    | some o => exact absurd (Heap.lt_size (k₁.kp _ _ e)) (Nat.lt_irrefl _)
  refine hq s₁.heap.objs.size _ _ _ _ (k₁.trans (Kps.push _ s₁.toks)) hn (fun _ _ st => let ⟨o, e, _⟩ := st.1; ⟨o, e⟩) W ⟨⟨_, Heap.get?_push_size _ rfl, rfl, rfl⟩, hl.push _⟩ ?_ ?_ ?_ (fun _ _ st => ⟨_, _, st.1⟩)
  · intro b hb
    rw [Heap.size_push]
    rcases List.mem_cons.mp hb with rfl | hb
    · exact Nat.lt_succ_self _
    · rw [List.mem_singleton.mp hb]; exact Nat.lt_succ_of_lt hlt
  · intro b hb
    rcases List.mem_cons.mp hb with rfl | hb
    · exact .inl rfl
    · rw [List.mem_singleton.mp hb]
      obtain ⟨o, e, hc, n, hd⟩ := id hl
      exact .inr ⟨⟨o, Heap.get?_push_of_some _ e, _, n, hd⟩, hav⟩
  · intro i v _ hP
    obtain ⟨V, hV, hp⟩ := Paired.get' hi (i := i) (a := v) (by simpa using hP)
    exact ⟨V, hV, V.up (V.grow hp (grow_new (new_none _))) (Kps.push _ s₁.toks).sqk⟩
theorem own_go {s : Shared} {elts : List Expr} {x1 : Nat} {pos : Pos} {I l : Addr} {i : Nat} {v : Value} {E : Value → Shared → Prop} {Q : Unit → Shared → Prop} (hit : s.heap.IsListIter I l i) (hq : Q () s) :
    wpAny (model prog w) A (letOwnedTupleGo (.Tuple elts x1 pos) (.ref I) v) Q E s := by
  cases v <;> first | exact wpAny_letOwnedTupleGo_listiter hit hq | exact wpAny_pure hq
end
section
variable {prog : Program} {w : World} {A : Around} {env : Env} {h₀ : Heap} {md : Addr → Prop} {ρ ρc : Locs} {X : Heap → Prop}
/-- a name bound to a comprehension's list -/
theorem assign_comp_q {elt iter : Expr} {scope : Scope} {cl : List (Str × Addr)} {pos spos py tp : Pos} {elts : List Expr} {tk₀ : Nat} {y : Str} {Vs Ws : List VP} {hX : OnMd md X} (ρt : Nat → Locs) (f : Fx env h₀ md) (K : Caps env scope cl ρ ρc)
    (hit : EvItQ prog w A env (frHP env h₀ ρ md X hX) iter Vs) (hlen : Ws.length = Vs.length)
    (hb : ∀ i V C, Vs[i]? = some V → Binds prog w A (compEnvC scope cl C env) h₀ (.Tuple elts tk₀ tp) V ρc (ρt i))
    (he : ∀ i W' C, Ws[i]? = some W' → Ev prog w A (compEnvC scope cl C env) (frHP (compEnvC scope cl C env) h₀ (ρt i) md X hX) elt W')
    (hy : env.kindOf y = some .local ∨ (env.kindOf y = some .cell ∧ ∃ c, env.cells.lookup y = some c))
    (hsw : swapsWith (.ListComp elt [⟨(.Tuple elts tk₀ tp), iter, [], 0⟩] scope pos) (some (.Name y py)) spos.line env = pure true) (hsz : Vs.length ≤ sizeLine)
    (hs : ∀ x, foldedSetIterable iter env x = pure x)
    {s : Shared} {av : Addr → Prop} (hm : ∀ b, md b → av b) (ho : Off av s.heap) (hF : FrameIs env h₀ ρ av s.heap) (hXs : X s.heap) {E : Value → Shared → Prop} {Q : Flow → Shared → Prop}
    (hq : ∀ D s' vs, s.heap.get? D = none → s'.heap.PlainList D vs.toArray → Items (fun b => av b ∨ b = D) s'.heap vs Ws → FrameIs env h₀ ((y, VRef D) :: ρ) (fun b => av b ∨ b = D) s'.heap → X s'.heap →
      Off (fun b => av b ∨ b = D) s'.heap → Mv env md s s' → Q .next s') :
    wpAny (model prog w) A (exec (.Assign [.Name y py] (.ListComp elt [⟨(.Tuple elts tk₀ tp), iter, [], 0⟩] scope pos) spos) env) Q E s := by
  rw [exec_Assign_Name_used _ _ _ _ hsw]
  refine wpAny_bind (wpAny_standAt (wpAny_bind ?_))
  show wpAny _ A (do let _ ← comprehension (.ListComp elt [⟨(.Tuple elts tk₀ tp), iter, [], 0⟩] scope pos) scope env _ (newList []) false (eval iter env) (some (assign (.Name y py) env))) _ _ s
  refine wpAny_bind (wpAny_mono (wpAny_comprehension_free (use := some (assign (.Name y py) env)) (Q := fun _ s' => Q .next s') rfl hs K.clos K.kind K.names
    (hit s av ho ⟨hF, hXs, hm⟩ E _ fun I s' fp P St k hI hIe W hst hfp hfp2 hP hLI => ?_)) (fun _ s' hq => wpAny_pure (wpAny_pure hq)) fun _ _ e => e)
  have hcI : ∀ n, env.cells.lookup n ≠ some I := fun n hc => by
    obtain ⟨v, o, e, _⟩ := hF.cellAt hc; rw [hI] at e; cases e
  have h0I : h₀.get? I = none := by
    obtain ⟨m, F, _, _⟩ := hF
    exact none_of_kp F.keep hI
  have hmI : ¬ md I := fun h => by obtain ⟨o, e⟩ := ho I (hm I h); rw [hI] at e; cases e
  refine comp_core (RR := fun acc C => compPost (model prog w) A E (some (assign (.Name y py) env)) (fun _ s' => Q .next s') acc C) (av := fun b => av b ∨ b = I) hlen hsz K hX (fun b hb => .inl (hm b hb)) (fun b hb => hb.elim (fun h => ho.up k.kp b h) fun e => by rw [e]; exact hIe _ _ hst)
    ((hF.grow (grow_new hI)).up k.kp) (hX.kp _ _ hXs k.kp) (.inr rfl) hmI h0I hcI W hIe hst hfp hP (fun s v _ E Q ⟨i, hs⟩ hq => let ⟨l, j, hit⟩ := hLI i _ hs; own_go hit hq) hb he ?_
  intro D C h' tk m' ys hD hC hDC hn hl hits hX' hk
  have hDs : s.heap.get? D = none := none_of_kp k.kp hD
  have hCs : s.heap.get? C = none := none_of_kp k.kp hC
  have kk : Kp s.heap h' := fun b o e => hk b o (by rintro rfl; rw [hI] at e; cases e) (k.kp b o e)
  obtain ⟨oC, esC, epC, hoC, hdC, _⟩ := id hn
  obtain ⟨hk₁, tk₁, rfl, _⟩ := k
  have hitsD : Items (fun b => av b ∨ b = D) h' ys.toList Ws := hits.grow fun b hb => .inl (hb.elim (fun h => .inl (.inl h)) .inr)
  have hDg : ∃ n, h'.get? D = some { cls := .type "list", data := .seq ys n } := hl
  have ho' : Off (fun b => av b ∨ b = D) h' := fun b hb => hb.elim (fun h => (ho.up kk) b h) fun e => by rw [e]; obtain ⟨n, e⟩ := hDg; exact ⟨_, e⟩
  obtain ⟨oL, esL, epL, hoL, hdL⟩ := hF.locals
  have hDL : D ≠ env.locals := by rintro rfl; rw [hDs] at hoL; cases hoL
  have hDc : ∀ n, env.cells.lookup n ≠ some D := fun n hc => by obtain ⟨v, o, e, _⟩ := hF.cellAt hc; rw [hDs] at e; cases e
  have hDm : ¬ md D := fun h => by obtain ⟨o, e⟩ := ho D (hm D h); rw [hDs] at e; cases e
  have hCL : C ≠ env.locals := by rintro rfl; rw [hCs] at hoL; cases hoL
  have hCc : ∀ n, env.cells.lookup n ≠ some C := fun n hc => by obtain ⟨v, o, e, _⟩ := hF.cellAt hc; rw [hCs] at e; cases e
  have hCm : ¬ md C := fun h => by obtain ⟨o, e⟩ := ho C (hm C h); rw [hCs] at e; cases e
  show wpAny _ A (assign (.Name y py) env (.ref D)) _ _ _
  refine wpAny_assign_Name (store (s := { s with heap := h', toks := tk }) (V := VRef D) f.kind f.cel f.mdo hX hy ho' ((hF.grow (grow_new hDs)).up kk) hX' rfl fun s₃ hF₃ hX₃ ho₃ mv₃ => ?_)
  obtain ⟨h3, t3, rfl, k3⟩ := id mv₃
  obtain ⟨oC', hoC', hdC'⟩ : ∃ o, h3.get? C = some o ∧ o.data = .dict esC epC := ⟨oC, k3 C oC hCL hCc hCm hoC, hdC⟩
  refine ⟨m', hn.at' fun o e => k3 C o hCL hCc hCm e, fun h'' hs'' => ?_⟩
  have hc3 : ∀ b o, b ≠ C → h3.get? b = some o → h''.get? b = some o := fun b o hb e => hs''.extBut b o hb e
  have sq : SqK (fun b => av b ∨ b = D) h' h'' := fun b o hb ⟨xs, n, hd⟩ e => hc3 b o (by rintro rfl; rw [hoC] at e; cases e; rw [hdC] at hd; cases hd) (k3 b o
    (by rintro rfl; rw [kk _ _ hoL] at e; cases e; rw [hdL] at hd; cases hd)
    (fun n' hc => by obtain ⟨v, o', e', d'⟩ := hF.cellAt hc; rw [kk _ _ e'] at e; cases e; rw [d'] at hd; cases hd)
    (fun h => hb (.inl (hm b h))) e)
  have hF4 : FrameIs env h₀ ((y, VRef D) :: ρ) (fun b => av b ∨ b = D) h'' := by
    obtain ⟨m₃, F₃, V₃, C₃⟩ := hF₃
    refine ⟨m₃, ⟨F₃.ns.at' fun o e => hc3 _ o (Ne.symm hCL) e, fun b o e => hc3 b o (by
        rintro rfl
        obtain ⟨_, F, _, _⟩ := hF
        have := F.keep _ _ e
        rw [hCs] at this; cases this) (F₃.keep b o e), F₃.above⟩, fun z V hz => ?_, fun n c hc => ?_⟩
    · obtain ⟨v, hv, h1⟩ := V₃ z V hz
      refine ⟨v, V.up hv fun b o _ ⟨xs, n, hd⟩ e => hc3 b o (by rintro rfl; rw [hoC'] at e; cases e; rw [hdC'] at hd; cases hd) e, ?_⟩
      rcases h1 with h1 | ⟨a1, c, a2, o, a3, a4⟩
      · exact .inl h1
      · exact .inr ⟨a1, c, a2, o, hc3 c o (by rintro rfl; exact hCc z a2) a3, a4⟩
    · obtain ⟨v, o, e, d⟩ := C₃ n c hc
      exact ⟨v, o, hc3 c o (by rintro rfl; exact hCc n hc) e, d⟩
  obtain ⟨nD, hDg⟩ := hDg
  refine hq D { s with heap := h'', toks := t3 } ys.toList hDs ⟨nD, by simpa using hc3 D _ hDC (k3 D _ hDL hDc hDm hDg)⟩ (hitsD.up sq) hF4 (hX _ _ hX₃ fun b o hb e => hc3 b o (by rintro rfl; exact hCm hb) e)
    (fun b hb => ?_) ⟨h'', t3, rfl, fun b o a1 a2 a3 e => hc3 b o (by rintro rfl; rw [hCs] at e; cases e) (k3 b o a1 a2 a3 (kk b o e))⟩
  obtain ⟨o, e⟩ := ho₃ b hb
  by_cases hbC : b = C
  · obtain ⟨o', e'⟩ : ∃ o, s.heap.get? b = some o ∨ b = D := hb.elim (fun h => let ⟨o, e⟩ := ho b h; ⟨o, .inl e⟩) fun h => ⟨oC, .inr h⟩
    rcases e' with e' | e'
    · rw [hbC, hCs] at e'; cases e'
    · exact absurd (e'.symm.trans hbC) hDC
  · exact ⟨o, hc3 b o hbC e⟩

end
end Mine

end
section
namespace Mine
section
variable {prog : Program} {w : World} {A : Around} {env : Env} {h₀ : Heap} {ρ ρc : Locs} {δ : Type}

/-- a list of two is unpacked -/
theorem binds_pair {cenv : Env} {a b : Str} {pa pb tp : Pos} {kk : Nat} {V₁ V₂ : VP} (hh : A.handled = none) (hk : cenv.scope.kind = .function) (ha : cenv.kindOf a = some .local) (hb : cenv.kindOf b = some .local) :
    Binds prog w A cenv h₀ (.Tuple [.Name a pa, .Name b pb] kk tp) (VList [V₁, V₂]) ρc ((b, V₂) :: (a, V₁) :: ρc) := by
  intro s av v ho hF hv E Q hq
  obtain ⟨l, vs, rfl, hav, hl, hi⟩ := hv
  cases hi with | cons h1 r => cases r with | cons h2 r => cases r with | nil =>
  rename_i v₁ v₂
  rw [assign_Tuple]
  refine wpAny_bind (wpAny_standAt ?_)
  have hn : (assignEach [.Name a pa, .Name b pb] cenv).length = ([v₁, v₂] : List Value).toArray.size := rfl
  have hstar : (assignEach [.Name a pa, .Name b pb] cenv).findIdx? (·.1) = none := rfl
  unfold unpack
  rw [hn, hstar]
  refine wpAny_bind (wpAny_holding (kun_itemsOf hh hl fun h' he => ?_))
  have kp : Kp s.heap h' := fun c o e => he c o (Nat.ne_of_lt (Heap.lt_size e)) e
  show wpAny _ _ (assignInOrder [assign (.Name a pa) cenv, assign (.Name b pb) cenv] [v₁, v₂]) _ _ _
  refine assignInOrder_cons (wpAny_assign_Name (storeLoc (s := { s with heap := h' }) (V := V₁) hk ha (ho.up kp) (hF.up kp) (V₁.up h1 (Kp.sqk kp)) fun h₂ hF₂ ho₂ hk₂ => ?_))
  have sq₂ : V₂.P av h₂ v₂ := by
    obtain ⟨oL, esL, epL, hoL, hdL⟩ := hF.locals
    refine V₂.up (V₂.up h2 (Kp.sqk kp)) fun c o _ ⟨xs, n, hd⟩ e => hk₂ c o ?_ e
    rintro rfl
    have := kp _ _ hoL
    change h'.get? _ = _ at this
    rw [this] at e; cases e; rw [hdL] at hd; cases hd
  refine assignInOrder_cons (wpAny_assign_Name (storeLoc (s := { s with heap := h₂, toks := s.toks + 1 }) (V := V₂) hk hb ho₂ hF₂ sq₂ fun h₃ hF₃ ho₃ hk₃ => ?_))
  exact assignInOrder_nil (hq h₃ _ hF₃ ho₃ fun c o hc e => hk₃ c o hc (hk₂ c o hc (kp c o e)))

/-- a name bound to a comprehension's list, the frame's own -/
theorem ht_own_comp {elt iter : Expr} {x y : Str} {px py : Pos} {scope : Scope} {cl : List (Str × Addr)} {pos spos : Pos} (ds : List δ) (den g : δ → VP) (f : Fx env h₀ noMd) (K : Caps env scope cl ρ ρc)
    (hit : EvIt prog w A env (frP env h₀ ρ) iter (ds.map den)) (hx : scope.names.lookup x = some .local)
    (he : ∀ d C, d ∈ ds → Ev prog w A (compEnvC scope cl C env) (frP (compEnvC scope cl C env) h₀ ((x, den d) :: ρc)) elt (g d))
    (hy : env.kindOf y = some .local ∨ (env.kindOf y = some .cell ∧ ∃ c, env.cells.lookup y = some c)) (hsz : ds.length ≤ sizeLine)
    (hsw : swapsWith (.ListComp elt [⟨.Name x px, iter, [], 0⟩] scope pos) (some (.Name y py)) spos.line env = pure true := by kernel_rfl!)
    (hs : ∀ x, foldedSetIterable iter env x = pure x := by intro _; kernel_rfl!) :
    HT prog w A env h₀ noMd ρ noX (exec (.Assign [.Name y py] (.ListComp elt [⟨.Name x px, iter, [], 0⟩] scope pos) spos) env) ((y, VOwn h₀ (ds.map g)) :: ρ) noX := by
  intro s av hm ho hF hXs E Q hq
  refine assign_comp_k (hX := onNo) (fun i => (x, (ds.map den).getD i VNone) :: ρc) f K hit (Ws := ds.map g) (by simp) (fun i V C hV => ?_) (fun i W' C hW => ?_) hy hsw (by simpa using hsz) tgt_name hs hm ho hF trivial fun D s' vs hD hl hits hF' hX' ho' mv => ?_
  · rw [getD_of hV]
    exact binds_name K.kind (lookup_relabel_local hx)
  · obtain ⟨d, hd, rfl⟩ := map_get hW
    have := he d C (List.mem_of_getElem? hd)
    rw [show (ds.map den).getD i VNone = den d from getD_of (by rw [List.getElem?_map, hd]; rfl)]
    exact this
  · exact hq s' ((hF'.grow fun b hb => .inl (.inl hb)).conv fun v hv => ⟨D, vs, hv, Off.fresh ho hD, none_of_kp hF.keep hD, hl, hits.grow fun b hb => .inl (.inl hb)⟩) trivial (fun b hb => ho' b (.inl hb)) mv

/-- the same, with two names for each item of a list of pairs -/
theorem ht_own_pairs {elt iter : Expr} {a b y : Str} {pa pb tp py : Pos} {kk : Nat} {scope : Scope} {cl : List (Str × Addr)} {pos spos : Pos} (ds : List δ) (d₁ d₂ g : δ → VP) (hh : A.handled = none) (f : Fx env h₀ noMd) (K : Caps env scope cl ρ ρc)
    (hit : EvItQ prog w A env (frP env h₀ ρ) iter (ds.map fun d => VList [d₁ d, d₂ d])) (ha : scope.names.lookup a = some .local) (hb : scope.names.lookup b = some .local)
    (he : ∀ d C, d ∈ ds → Ev prog w A (compEnvC scope cl C env) (frP (compEnvC scope cl C env) h₀ ((b, d₂ d) :: (a, d₁ d) :: ρc)) elt (g d))
    (hy : env.kindOf y = some .local ∨ (env.kindOf y = some .cell ∧ ∃ c, env.cells.lookup y = some c)) (hsz : ds.length ≤ sizeLine)
    (hsw : swapsWith (.ListComp elt [⟨.Tuple [.Name a pa, .Name b pb] kk tp, iter, [], 0⟩] scope pos) (some (.Name y py)) spos.line env = pure true := by kernel_rfl!)
    (hs : ∀ x, foldedSetIterable iter env x = pure x := by intro _; kernel_rfl!) :
    HT prog w A env h₀ noMd ρ noX (exec (.Assign [.Name y py] (.ListComp elt [⟨.Tuple [.Name a pa, .Name b pb] kk tp, iter, [], 0⟩] scope pos) spos) env) ((y, VOwn h₀ (ds.map g)) :: ρ) noX := by
  intro s av hm ho hF hXs E Q hq
  refine assign_comp_q (hX := onNo) (fun i => match ds[i]? with | some d => (b, d₂ d) :: (a, d₁ d) :: ρc | none => ρc) f K hit (Ws := ds.map g) (by simp) (fun i V C hV => ?_) (fun i W' C hW => ?_) hy hsw (by simpa using hsz) hs hm ho hF trivial fun D s' vs hD hl hits hF' hX' ho' mv => ?_
  · obtain ⟨d, hd, rfl⟩ := map_get hV
    rw [hd]
    exact binds_pair hh K.kind (lookup_relabel_local ha) (lookup_relabel_local hb)
  · obtain ⟨d, hd, rfl⟩ := map_get hW
    have := he d C (List.mem_of_getElem? hd)
    rw [hd]
    exact this
  · exact hq s' ((hF'.grow fun b hb => .inl (.inl hb)).conv fun v hv => ⟨D, vs, hv, Off.fresh ho hD, none_of_kp hF.keep hD, hl, hits.grow fun b hb => .inl (.inl hb)⟩) trivial (fun b hb => ho' b (.inl hb)) mv
end
end Mine

end
section
namespace Mine
section
variable {prog : Program} {w : World} {A : Around} {env : Env} {h₀ : Heap}
/-- a comprehension as an expression: its list is new -/
theorem ev_compOwn {elt target iter : Expr} {scope : Scope} {cl : List (Str × Addr)} {pos : Pos} {Vs Ws : List VP} {ρ ρc : Locs} {md : Addr → Prop} {X : Heap → Prop} {hX : OnMd md X} (ρt : Nat → Locs) (K : Caps env scope cl ρ ρc)
    (hit : EvIt prog w A env (frHP env h₀ ρ md X hX) iter Vs) (hlen : Ws.length = Vs.length)
    (hb : ∀ i V C, Vs[i]? = some V → Binds prog w A (compEnvC scope cl C env) h₀ target V ρc (ρt i))
    (he : ∀ i W' C, Ws[i]? = some W' → Ev prog w A (compEnvC scope cl C env) (frHP (compEnvC scope cl C env) h₀ (ρt i) md X hX) elt W')
    (hsz : Vs.length ≤ sizeLine := by size_fits)
    (htgt : ∀ it v, letOwnedTupleGo target it v = pure () := by intro _ _; kernel_rfl!) (hs : ∀ x, foldedSetIterable iter env x = pure x := by intro _; kernel_rfl!) :
    Ev prog w A env (frHP env h₀ ρ md X hX) (.ListComp elt [⟨target, iter, [], 0⟩] scope pos) (VOwn h₀ Ws) := by
  intro s av ho hg E Q hq
  rw [eval_ListComp]
  refine wpAny_comprehension_free (use := none) rfl hs K.clos K.kind K.names (hit s av ho hg E _ fun I s' fp P St k hI hIe W hst hfp hfp2 hP => ?_)
  obtain ⟨hF, hXs, hm⟩ := hg
  have hcI : ∀ n, env.cells.lookup n ≠ some I := fun n hc => by
    obtain ⟨v, o, e, _⟩ := hF.cellAt hc; rw [hI] at e; cases e
  have h0I : h₀.get? I = none := by
    obtain ⟨m, F, _, _⟩ := hF
    cases e : h₀.get? I with
    | none => rfl
    | some o => have := F.keep _ _ e; rw [hI] at this; cases this
  have hmI : ¬ md I := fun h => by obtain ⟨o, e⟩ := ho I (hm I h); rw [hI] at e; cases e
  refine comp_core (RR := fun acc C => compPost (model prog w) A E none Q acc C) (av := fun b => av b ∨ b = I) hlen hsz K hX (fun b hb => .inl (hm b hb)) (fun b hb => hb.elim (fun h => ho.up k.kp b h) fun e => by rw [e]; exact hIe _ _ hst)
    ((hF.grow (grow_new hI)).up k.kp) (hX.kp _ _ hXs k.kp) (.inr rfl) hmI h0I hcI W hIe hst hfp hP (fun s v _ E Q _ hq => wpAny_of_eq (htgt _ _) hq) hb he ?_
  intro D C h' tk m' ys hD hC hDC hn hl hits hX' hk
  have hDs : s.heap.get? D = none := by
    cases e : s.heap.get? D with
    | none => rfl
    | some o => have := k.kp _ _ e; rw [hD] at this; cases this
  have kk : Kp s.heap h' := fun b o e => hk b o (by rintro rfl; rw [hI] at e; cases e) (k.kp b o e)
  refine ⟨m', hn, fun h'' hs'' => ?_⟩
  have hCs : s.heap.get? C = none := by
    cases e : s.heap.get? C with
    | none => rfl
    | some o => have := k.kp _ _ e; rw [hC] at this; cases this
  obtain ⟨oC, esC, epC, hoC, hdC, _⟩ := id hn
  have kk' : Kp s.heap h'' := fun b o e => hs''.extBut b o (by rintro rfl; rw [hCs] at e; cases e) (kk b o e)
  have hl' : h''.PlainList D ys := hl.extBut hs''.extBut hDC
  have sq : SqK (fun b => (av b ∨ b = I) ∨ b = D) h' h'' := fun b o _ ⟨xs, n, hd⟩ e => hs''.extBut b o (by rintro rfl; rw [hoC] at e; cases e; rw [hdC] at hd; cases hd) e
  obtain ⟨hk₁, tk₁, rfl, _⟩ := k
  refine hq _ _ ⟨D, ys.toList, rfl, Off.fresh ho hDs, none_of_kp hF.keep hDs, by simpa using hl', ((hits.up sq).grow fun b hb => .inl (.inl (.inl hb)))⟩ (Kps.of kk')

/-- the same, with a tuple of targets -/
theorem ev_compOwnQ {elt iter : Expr} {scope : Scope} {cl : List (Str × Addr)} {pos tp : Pos} {elts : List Expr} {tk₀ : Nat} {Vs Ws : List VP} {ρ ρc : Locs} {md : Addr → Prop} {X : Heap → Prop} {hX : OnMd md X} (ρt : Nat → Locs) (K : Caps env scope cl ρ ρc)
    (hit : EvItQ prog w A env (frHP env h₀ ρ md X hX) iter Vs) (hlen : Ws.length = Vs.length)
    (hb : ∀ i V C, Vs[i]? = some V → Binds prog w A (compEnvC scope cl C env) h₀ (.Tuple elts tk₀ tp) V ρc (ρt i))
    (he : ∀ i W' C, Ws[i]? = some W' → Ev prog w A (compEnvC scope cl C env) (frHP (compEnvC scope cl C env) h₀ (ρt i) md X hX) elt W')
    (hsz : Vs.length ≤ sizeLine := by size_fits)
    (hs : ∀ x, foldedSetIterable iter env x = pure x := by intro _; kernel_rfl!) :
    Ev prog w A env (frHP env h₀ ρ md X hX) (.ListComp elt [⟨(.Tuple elts tk₀ tp), iter, [], 0⟩] scope pos) (VOwn h₀ Ws) := by
  intro s av ho hg E Q hq
  rw [eval_ListComp]
  refine wpAny_comprehension_free (use := none) rfl hs K.clos K.kind K.names (hit s av ho hg E _ fun I s' fp P St k hI hIe W hst hfp hfp2 hP hLI => ?_)
  obtain ⟨hF, hXs, hm⟩ := hg
  have hcI : ∀ n, env.cells.lookup n ≠ some I := fun n hc => by
    obtain ⟨v, o, e, _⟩ := hF.cellAt hc; rw [hI] at e; cases e
  have h0I : h₀.get? I = none := by
    obtain ⟨m, F, _, _⟩ := hF
    cases e : h₀.get? I with
    | none => rfl
    | some o => have := F.keep _ _ e; rw [hI] at this; cases this
  have hmI : ¬ md I := fun h => by obtain ⟨o, e⟩ := ho I (hm I h); rw [hI] at e; cases e
  refine comp_core (RR := fun acc C => compPost (model prog w) A E none Q acc C) (av := fun b => av b ∨ b = I) hlen hsz K hX (fun b hb => .inl (hm b hb)) (fun b hb => hb.elim (fun h => ho.up k.kp b h) fun e => by rw [e]; exact hIe _ _ hst)
    ((hF.grow (grow_new hI)).up k.kp) (hX.kp _ _ hXs k.kp) (.inr rfl) hmI h0I hcI W hIe hst hfp hP (fun s v _ E Q ⟨i, hs⟩ hq => let ⟨l, j, hit⟩ := hLI i _ hs; own_go hit hq) hb he ?_
  intro D C h' tk m' ys hD hC hDC hn hl hits hX' hk
  have hDs : s.heap.get? D = none := by
    cases e : s.heap.get? D with
    | none => rfl
    | some o => have := k.kp _ _ e; rw [hD] at this; cases this
  have kk : Kp s.heap h' := fun b o e => hk b o (by rintro rfl; rw [hI] at e; cases e) (k.kp b o e)
  refine ⟨m', hn, fun h'' hs'' => ?_⟩
  have hCs : s.heap.get? C = none := by
    cases e : s.heap.get? C with
    | none => rfl
    | some o => have := k.kp _ _ e; rw [hC] at this; cases this
  obtain ⟨oC, esC, epC, hoC, hdC, _⟩ := id hn
  have kk' : Kp s.heap h'' := fun b o e => hs''.extBut b o (by rintro rfl; rw [hCs] at e; cases e) (kk b o e)
  have hl' : h''.PlainList D ys := hl.extBut hs''.extBut hDC
  have sq : SqK (fun b => (av b ∨ b = I) ∨ b = D) h' h'' := fun b o _ ⟨xs, n, hd⟩ e => hs''.extBut b o (by rintro rfl; rw [hoC] at e; cases e; rw [hdC] at hd; cases hd) e
  obtain ⟨hk₁, tk₁, rfl, _⟩ := k
  refine hq _ _ ⟨D, ys.toList, rfl, Off.fresh ho hDs, none_of_kp hF.keep hDs, by simpa using hl', ((hits.up sq).grow fun b hb => .inl (.inl (.inl hb)))⟩ (Kps.of kk')

variable {ρ ρc : Locs} {δ : Type}
theorem ev_compOwnD {elt iter : Expr} {x : Str} {px : Pos} {scope : Scope} {cl : List (Str × Addr)} {pos : Pos} (ds : List δ) (den g : δ → VP) (K : Caps env scope cl ρ ρc)
    (hit : EvIt prog w A env (frP env h₀ ρ) iter (ds.map den)) (hx : scope.names.lookup x = some .local)
    (he : ∀ d C, d ∈ ds → Ev prog w A (compEnvC scope cl C env) (frP (compEnvC scope cl C env) h₀ ((x, den d) :: ρc)) elt (g d))
    (hsz : ds.length ≤ sizeLine) (hs : ∀ x, foldedSetIterable iter env x = pure x := by intro _; kernel_rfl!) :
    Ev prog w A env (frP env h₀ ρ) (.ListComp elt [⟨.Name x px, iter, [], 0⟩] scope pos) (VOwn h₀ (ds.map g)) := by
  refine ev_compOwn (fun i => (x, (ds.map den).getD i VNone) :: ρc) K hit (by simp) (fun i V C hV => ?_) (fun i W' C hW => ?_) (by simpa using hsz) (fun _ _ => rfl) hs
  · rw [getD_of hV]
    exact binds_name K.kind (lookup_relabel_local hx)
  · obtain ⟨d, hd, rfl⟩ := map_get hW
    have := he d C (List.mem_of_getElem? hd)
    rw [show (ds.map den).getD i VNone = den d from getD_of (by rw [List.getElem?_map, hd]; rfl)]
    exact this
theorem ev_compOwnP {elt iter : Expr} {a b : Str} {pa pb tp : Pos} {kk : Nat} {scope : Scope} {cl : List (Str × Addr)} {pos : Pos} (ds : List δ) (d₁ d₂ g : δ → VP) (hh : A.handled = none) (K : Caps env scope cl ρ ρc)
    (hit : EvItQ prog w A env (frP env h₀ ρ) iter (ds.map fun d => VList [d₁ d, d₂ d])) (ha : scope.names.lookup a = some .local) (hb : scope.names.lookup b = some .local)
    (he : ∀ d C, d ∈ ds → Ev prog w A (compEnvC scope cl C env) (frP (compEnvC scope cl C env) h₀ ((b, d₂ d) :: (a, d₁ d) :: ρc)) elt (g d))
    (hsz : ds.length ≤ sizeLine) (hs : ∀ x, foldedSetIterable iter env x = pure x := by intro _; kernel_rfl!) :
    Ev prog w A env (frP env h₀ ρ) (.ListComp elt [⟨.Tuple [.Name a pa, .Name b pb] kk tp, iter, [], 0⟩] scope pos) (VOwn h₀ (ds.map g)) := by
  refine ev_compOwnQ (fun i => match ds[i]? with | some d => (b, d₂ d) :: (a, d₁ d) :: ρc | none => ρc) K hit (by simp) (fun i V C hV => ?_) (fun i W' C hW => ?_) (by simpa using hsz) hs
  · obtain ⟨d, hd, rfl⟩ := map_get hV
    rw [hd]
    exact binds_pair hh K.kind (lookup_relabel_local ha) (lookup_relabel_local hb)
  · obtain ⟨d, hd, rfl⟩ := map_get hW
    have := he d C (List.mem_of_getElem? hd)
    rw [hd]
    exact this
end
end Mine

end
section
namespace Mine

theorem Tst.eq {prog : Program} {w : World} {A : Around} {env : Env} {G : HP} {e : Expr} {b c : Bool} (h : Tst prog w A env G e b) (hb : b = c) : Tst prog w A env G e c := hb ▸ h

def sName : Stmt → Str
  | .FunctionDef n _ _ _ _ _ _ _ _ _ => n
  | _ => ""
def sArgs : Stmt → Arguments
  | .FunctionDef _ a _ _ _ _ _ _ _ _ => a
  | _ => ⟨[], [], none, [], [], none, []⟩
def sBody : Stmt → List Stmt
  | .FunctionDef _ _ b _ _ _ _ _ _ _ => b
  | _ => []
def sScope : Stmt → Scope
  | .FunctionDef _ _ _ _ _ _ s _ _ _ => s
  | _ => ⟨.function, [], false, false, []⟩
def sPos : Stmt → Pos
  | .FunctionDef _ _ _ _ _ _ _ _ _ p => p
  | _ => ⟨0, 0, 0, 0⟩
def sItem (s : Stmt) : DefItem := ⟨sName s, sArgs s, sBody s, sScope s, sPos s⟩
def nth (p : Program) (n : Nat) : Stmt := p.main.body.getD n (.Pass ⟨0, 0, 0, 0⟩)

abbrev P2 : Program := PySem.Challenge.pw_rl0006_02
def dRep : DefItem := sItem (nth P2 1)
def dLow : DefItem := sItem (nth P2 4)
def dHigh : DefItem := sItem (nth P2 5)

section
variable {prog : Program} {w : World} {A : Around} {defs : List DefItem} {names : List Str}

set_option maxRecDepth 20000 in
theorem low_ok {xs ys : List Str} {y : Str} (hroom : A.depth < recursionLimit) (hh : A.handled = none) (n1 : ("sorted" : Str) ∉ names) (n2 : ("len" : Str) ∉ names)
    (h64 : xs.length < 64) (h0 : 0 < xs.length) (hys : ∀ ys', ys'.Perm xs → sortedS ys' = true → ys' = ys) (hlen : ys.length = xs.length) (hy : ys[(xs.length - 1) / 2]? = some y) :
    CallOk prog w A defs names dLow [VList (xs.map VStr)] (VStr y) := by
  refine callOk1 (p := "data") hroom hh (fun _ _ _ _ => rfl) (by rfl) (by decide +kernel) rfl rfl rfl fun L f cd h₀ C => ?_
  have fx : Fx (envOf dLow.name dLow.scope L f cd) h₀ noMd := fx_of rfl
  refine hr_cons (ht_assign fx onNo (ev_callB (ev_builtin C (by decide +kernel) n1 (by rfl)) (ae_cons (ev_name C.kind (by rfl)) ae_nil) fun vs s av ho hg hvs => op_sorted hvs h64 ho hys) (.inl (by rfl))) ?_
  refine hr_cons (ht_assign fx onNo (ev_callB (ev_builtin C (by decide +kernel) n2 (by rfl)) (ae_cons (ev_name C.kind (by rfl)) ae_nil) fun vs s av ho hg hvs => op_lenL (by rw [List.length_map]; omega) hvs) (.inl (by rfl))) ?_
  rw [List.length_map, hlen]
  refine hr_cons (ht_if (c := false) onNo (tst_Compare (ev_name C.kind (by rfl)) ev_int fun a b s av ho hg ha hb => (op_eqI ha hb).mono fun h y hy => hy.trans (by rw [show ((xs.length : Int) == 0) = false by simpa using Nat.ne_of_gt h0])) (fun h => nomatch h) fun _ => ht_nil) ?_
  refine hr_if (c := decide (xs.length % 2 = 1)) onNo (tst_Compare (ev_BinOp (ev_name C.kind (by rfl)) ev_int fun a b s av ho hg ha hb => op_modI (by decide) ha hb) ev_int fun a b s av ho hg ha hb => (op_eqI ha hb).mono fun h y hy => hy.trans ?_) ?_ ?_
  · congr 1
    rw [Bool.eq_iff_iff]
    simp only [beq_iff_eq, decide_eq_true_eq, Int.fmod_eq_emod_of_nonneg _ (show (0 : Int) ≤ 2 by decide)]
    omega
  · intro hc
    have hc' : xs.length % 2 = 1 := by simpa using hc
    refine hr_return onNo (ev_sub (ev_name C.kind (by rfl)) (ev_BinOp (ev_name C.kind (by rfl)) ev_int fun a b s av ho hg ha hb => op_divI (by decide) ?_ ha hb) fun a b s av ho hg ha hb => op_itemL ha hb ?_ ?_ ?_ (fun _ _ => rfl))
    · exact PyProof.noPylong_small (by omega)
    · rw [Int.fdiv_eq_ediv_of_nonneg _ (by decide)]; omega
    · rw [Int.fdiv_eq_ediv_of_nonneg _ (by decide)]; omega
    · rw [List.getElem?_map, Int.fdiv_eq_ediv_of_nonneg _ (by decide), show (((xs.length : Nat) : Int) / 2).toNat = (xs.length - 1) / 2 by omega, hy]; rfl
  · intro hc
    have hc' : xs.length % 2 = 0 := by have : ¬ xs.length % 2 = 1 := by simpa using hc
                                       omega
    refine hr_return onNo (ev_sub (ev_name C.kind (by rfl)) (ev_BinOp (ev_BinOp (ev_name C.kind (by rfl)) ev_int fun a b s av ho hg ha hb => op_divI (by decide) ?_ ha hb) ev_int fun a b s av ho hg ha hb => op_subI ha hb) fun a b s av ho hg ha hb => op_itemL ha hb ?_ ?_ ?_ (fun _ _ => rfl))
    · exact PyProof.noPylong_small (by omega)
    · rw [Int.fdiv_eq_ediv_of_nonneg _ (by decide)]; omega
    · rw [Int.fdiv_eq_ediv_of_nonneg _ (by decide)]; omega
    · rw [List.getElem?_map, Int.fdiv_eq_ediv_of_nonneg _ (by decide), show (((xs.length : Nat) : Int) / 2 - 1).toNat = (xs.length - 1) / 2 by omega, hy]; rfl

set_option maxRecDepth 20000 in
theorem high_ok {xs ys : List Str} {y : Str} (hroom : A.depth < recursionLimit) (hh : A.handled = none) (n1 : ("sorted" : Str) ∉ names) (n2 : ("len" : Str) ∉ names)
    (h64 : xs.length < 64) (h0 : 0 < xs.length) (hys : ∀ ys', ys'.Perm xs → sortedS ys' = true → ys' = ys) (hlen : ys.length = xs.length) (hy : ys[xs.length / 2]? = some y) :
    CallOk prog w A defs names dHigh [VList (xs.map VStr)] (VStr y) := by
  refine callOk1 (p := "data") hroom hh (fun _ _ _ _ => rfl) (by rfl) (by decide +kernel) rfl rfl rfl fun L f cd h₀ C => ?_
  have fx : Fx (envOf dHigh.name dHigh.scope L f cd) h₀ noMd := fx_of rfl
  refine hr_cons (ht_assign fx onNo (ev_callB (ev_builtin C (by decide +kernel) n1 (by rfl)) (ae_cons (ev_name C.kind (by rfl)) ae_nil) fun vs s av ho hg hvs => op_sorted hvs h64 ho hys) (.inl (by rfl))) ?_
  refine hr_cons (ht_assign fx onNo (ev_callB (ev_builtin C (by decide +kernel) n2 (by rfl)) (ae_cons (ev_name C.kind (by rfl)) ae_nil) fun vs s av ho hg hvs => op_lenL (by rw [List.length_map]; omega) hvs) (.inl (by rfl))) ?_
  rw [List.length_map, hlen]
  refine hr_cons (ht_if (c := false) onNo (tst_Compare (ev_name C.kind (by rfl)) ev_int fun a b s av ho hg ha hb => (op_eqI ha hb).mono fun h y hy => hy.trans (by rw [show ((xs.length : Int) == 0) = false by simpa using Nat.ne_of_gt h0])) (fun h => nomatch h) fun _ => ht_nil) ?_
  refine hr_return onNo (ev_sub (ev_name C.kind (by rfl)) (ev_BinOp (ev_name C.kind (by rfl)) ev_int fun a b s av ho hg ha hb => op_divI (by decide) ?_ ha hb) fun a b s av ho hg ha hb => op_itemL ha hb ?_ ?_ ?_ (fun _ _ => rfl))
  · exact PyProof.noPylong_small (by omega)
  · rw [Int.fdiv_eq_ediv_of_nonneg _ (by decide)]; omega
  · rw [Int.fdiv_eq_ediv_of_nonneg _ (by decide)]; omega
  · rw [List.getElem?_map, Int.fdiv_eq_ediv_of_nonneg _ (by decide), show (((xs.length : Nat) : Int) / 2).toNat = xs.length / 2 by omega, hy]; rfl

/-- one pair of replace: the parts of x between the y, joined by z -/
def rep1 (x y z : Str) : Str := Txt.join z (Txt.split x y)
/-- all pairs, two texts each -/
def repAll : Str → List Str → Str
  | x, y :: z :: r => repAll (rep1 x y z) r
  | x, _ => x
/-- the sizes stay within the line -/
def RepOk (x y z : Str) : Prop := (y.length == 0) = false ∧ x.length ≤ sizeLine ∧ (Builtin.Str.partsBetween x (Builtin.Str.occurrences x y 0 x.length (x.length + 1)) y.length).length ≤ sizeLine ∧ JoinOk z (Txt.split x y) = true
/-- the texts behind i pairs -/
def repTo : Nat → Str → List Str → Str × List Str
  | 0, x, ps => (x, ps)
  | i + 1, x, y :: z :: r => repTo i (rep1 x y z) r
  | _ + 1, x, ps => (x, ps)
theorem repTo_succ : ∀ (i : Nat) (x : Str) (ps : List Str) (x' : Str) (y z : Str) (r : List Str), repTo i x ps = (x', y :: z :: r) → repTo (i + 1) x ps = (rep1 x' y z, r)
  | 0, x, ps, x', y, z, r, h => by cases h; rfl
  | i + 1, x, [], x', y, z, r, h => by cases h
  | i + 1, x, [_], x', y, z, r, h => by cases h
  | i + 1, x, y :: z :: r, x', y', z', r', h => by
    have := repTo_succ i (rep1 x y z) r x' y' z' r' h
    exact this
theorem repTo_len : ∀ (i n : Nat) (x : Str) (ps : List Str), ps.length = 2 * n → i ≤ n → (repTo i x ps).2.length = 2 * (n - i)
  | 0, n, x, ps, h, _ => by simpa [repTo] using h
  | i + 1, n, x, [], h, hi => by simp at h; omega
  | i + 1, n, x, [_], h, hi => by simp at h; omega
  | i + 1, n, x, y :: z :: r, h, hi => by
    have := repTo_len i (n - 1) (rep1 x y z) r (by simp at h; omega) (by omega)
    show (repTo i (rep1 x y z) r).2.length = _
    rw [this]; omega
theorem repTo_all : ∀ (n : Nat) (x : Str) (ps : List Str), ps.length = 2 * n → repTo n x ps = (repAll x ps, [])
  | 0, x, ps, h => by have : ps = [] := List.eq_nil_of_length_eq_zero (by omega)
                      subst this; rfl
  | n + 1, x, [], h => by simp at h
  | n + 1, x, [_], h => by simp at h; omega
  | n + 1, x, y :: z :: r, h => repTo_all n (rep1 x y z) r (by simp at h; omega)

theorem bind_var {name : Str} {params : Arguments} {body : List Stmt} {scope : Scope} {pm cd doc v : Value} {vs : List Value} {a b : Arg} (hp : params = ⟨[], [a], some b, [], [], none, []⟩) :
    bindArgs (docDef name params body scope pm cd doc) ⟨v :: vs, []⟩ = (newTuple vs >>= fun t => pure [(a.arg, v), (b.arg, t)]) := by
  subst hp
  unfold bindArgs docDef
  simp [seqItems?]
  rfl
set_option maxRecDepth 20000 in
theorem rep_ok {x : Str} {ps : List Str} {n : Nat} (hroom : A.depth < recursionLimit) (hh : A.handled = none) (hn : ps.length = 2 * n) (hsz : ps.length ≤ 1000)
    (hok : ∀ i x' y z r, i < n → repTo i x ps = (x', y :: z :: r) → RepOk x' y z) : CallOk prog w A defs names dRep (VStr x :: ps.map VStr) (VStr (repAll x ps)) := by
  refine callOkVar (p := "text") (q := "pairs") (by decide) hroom hh (fun _ _ _ _ _ => bind_var rfl) (by rfl) (by rfl) (by decide +kernel) rfl rfl rfl (by rw [List.length_map, sizeLine_eq]; omega) fun L f cd h₀ C => ?_
  have fx : Fx (envOf dRep.name dRep.scope L f cd) h₀ noMd := fx_of rfl
  refine hr_cons (ρ₁ := [("text", VStr (repAll x ps)), ("pairs", VTup [])]) (ht_sub (ht_while (hX := onNo) (fun i => [("text", VStr (repTo i x ps).1), ("pairs", VTup ((repTo i x ps).2.map VStr))]) n (fun i hi => ?_) ?_ fun i hi => ?_) ?_) (hr_return onNo (ev_name C.kind (by rfl)))
  · have hl := repTo_len i n x ps hn (Nat.le_of_lt hi)
    refine Tst.eq (tst_tup (Vs := (repTo i x ps).2.map VStr) C.kind (by rfl) (by rw [List.length_map]; omega)) ?_
    cases h : (repTo i x ps).2 with
    | nil => rw [h] at hl; simp at hl; omega
    | cons _ _ => rfl
  · refine Tst.eq (tst_tup (Vs := (repTo n x ps).2.map VStr) C.kind (by rfl) (by rw [repTo_all n x ps hn]; show ((0 : Nat) : Int) < 2 ^ 63; decide)) ?_
    rw [repTo_all n x ps hn]; rfl
  · have hl := repTo_len i n x ps hn (Nat.le_of_lt hi)
    obtain ⟨x', qs, e⟩ : ∃ x' qs, repTo i x ps = (x', qs) := ⟨_, _, rfl⟩
    rw [e] at hl
    match qs, hl, e with
    | y :: z :: r, hl, e =>
      obtain ⟨h1, h2, h3, h4⟩ := hok i x' y z r hi e
      have hr : r.length ≤ 1000 := by simp at hl; omega
      rw [e, repTo_succ i x ps x' y z r e]
      refine ht_sub (ht_cons (ht_assign fx onNo (ev_join (sep := z) (xs := Txt.split x' y) (ev_sub (ev_name C.kind (by rfl)) ev_int fun a b s av ho hg ha hb => op_itemT ha hb (by decide) (by decide) rfl (fun _ _ => rfl))
        (ev_split (ev_name C.kind (by rfl)) (ev_sub (ev_name C.kind (by rfl)) ev_int fun a b s av ho hg ha hb => op_itemT ha hb (by decide) (by decide) rfl (fun _ _ => rfl)) h1 h2 h3) h4) (.inl (by rfl)))
        (ht_cons (ht_assign fx onNo (ev_slice (ev_name C.kind (by rfl)) (ep_some ev_int) ep_none ep_none fun a vl vu vs sl s av ho hg ha hvl hvu hvs hsl => op_sliceT (n := 2) ho ha hvl hvu hvs hsl (by decide) (by simp) (by rw [sizeLine_eq]; simp; omega)) (.inl (by rfl))) ht_nil)) ?_
      intro p hp
      simp only [List.mem_cons, List.not_mem_nil, or_false] at hp
      rcases hp with rfl | rfl
      · rfl
      · rfl
    | [_], hl, _ => simp at hl; omega
    | [], hl, _ => simp at hl; omega
  · intro p hp
    rw [repTo_all n x ps hn]
    simp only [List.mem_cons, List.not_mem_nil, or_false] at hp
    rcases hp with rfl | rfl
    · rfl
    · rfl
end
end Mine

end
section
namespace Mine
theorem lk_head {x : Str} {V : VP} {ρ : Locs} : List.lookup x ((x, V) :: ρ) = some V := List.lookup_cons_self
theorem lk_tail {x y : Str} {V W : VP} {ρ : Locs} (h : (x == y) = false) (h' : List.lookup x ρ = some V) : List.lookup x ((y, W) :: ρ) = some V := by rw [List.lookup_cons, h]; exact h'
local macro_rules | `(tactic| walk_at "lk") => `(tactic| (repeat (first | with_reducible exact lk_head | refine lk_tail (by kernel_rfl!) ?_)))
local macro_rules | `(tactic| walk_at "sub") => `(tactic| ((repeat (refine List.forall_mem_cons.mpr ⟨by (dsimp only; walk_at "lk"), ?_⟩)); exact List.forall_mem_nil _))

theorem Ev.cast {prog : Program} {w : World} {A : Around} {env : Env} {G : HP} {e : Expr} {V W : VP} (h : Ev prog w A env G e V) (hv : V = W) : Ev prog w A env G e W := hv ▸ h
theorem vbool_eq {b c : Bool} (h : b = c) : ∀ (av : Addr → Prop) (hp : Heap) (y : Value), (VBool b).P av hp y → (VBool c).P av hp y := fun _ _ _ hy => h ▸ hy
theorem glued_nil (ps : List Str) : (Txt.join "" ps).cps.toList = (ps.map (·.cps.toList)).flatten := by
  unfold Txt.join
  rw [StrLaws.glued_eq_join]
  induction ps with
  | nil => rfl
  | cons p r ih =>
    cases r with
    | nil => simp [Str.join]
    | cons q r => rw [join_toList_cons, ih]; simp [show (Str.ofString "").cps.toList = [] from by decide +kernel]
theorem str_ext {a b : Str} (h : a.cps.toList = b.cps.toList) : a = b := by
  obtain ⟨a⟩ := a; obtain ⟨b⟩ := b
  exact congrArg Str.mk (Array.toList_inj.mp h)
theorem stB_toList (l : List Bool) : (stB l).cps.toList = l.map letter := by simp [stB]
theorem stB_len (l : List Bool) : (stB l).length = l.length := by simp [stB, Str.length]

/-- a letter's image -/
def sel (x y : List Bool) (b : Bool) : List Bool := if b then y else x
/-- a word reworded -/
def phi (x y l : List Bool) : List Bool := l.flatMap (sel x y)
theorem join_sel (x y l : List Bool) : Txt.join "" (l.map fun b => stB (sel x y b)) = stB (phi x y l) := by
  apply str_ext
  rw [glued_nil, stB_toList]
  induction l with
  | nil => rfl
  | cons b t ih =>
    rw [List.map_cons, List.map_cons, List.flatten_cons, ih, stB_toList]
    simp [phi, List.flatMap_cons]
theorem phi_len {x y l : List Bool} {n : Nat} (hx : x.length ≤ n) (hy : y.length ≤ n) : (phi x y l).length ≤ n * l.length := by
  induction l with
  | nil => simp [phi]
  | cons b t ih =>
    have : (sel x y b).length ≤ n := by cases b <;> assumption
    simp only [phi, List.flatMap_cons, List.length_append, List.length_cons] at ih ⊢
    rw [Nat.mul_succ]; omega
theorem joinOk_sel {x y l : List Bool} (h : (phi x y l).length ≤ 1000) : JoinOk "" (l.map fun b => stB (sel x y b)) = true := by
  unfold JoinOk
  have hs : ((l.map fun b => stB (sel x y b)).map (·.length)).sum = (phi x y l).length := by
    clear h
    induction l with
    | nil => rfl
    | cons b t ih => simp only [List.map_cons, List.sum_cons, ih, phi, List.flatMap_cons, List.length_append, stB_len]
  rw [StrLaws.joinTotal, hs]
  simp only [show (Str.ofString "").length = 0 from by decide +kernel, Nat.mul_zero, Nat.add_zero, Bool.not_eq_true']
  unfold Builtin.Str.tooLong
  rw [sizeLine_eq]
  simp; omega

theorem it_word {prog : Program} {w : World} {A : Around} {env : Env} {G : HP} {iter : Expr} {l : List Bool} (hh : A.handled = none) (h : Ev prog w A env G iter (VStr (stB l))) : EvIt prog w A env G iter (l.map fun b => VStr (l1 b)) := by
  have := it_str hh h
  rw [letters_stB, List.map_map] at this
  exact this

def dRew : DefItem := sItem (nth P2 7)
abbrev ER (L f : Addr) (cd : Value) : Env := envOfC dRew.name dRew.scope L f cd
section
variable {prog : Program} {w : World} {A : Around} {L f : Addr} {cd : Value} {h₀ : Heap} {defs : List DefItem} {names : List Str}
theorem cellsR : (ER L f cd).cells = [(("images" : Str), L + 1)] := by rfl

set_option maxRecDepth 20000 in
theorem rew_hr {x y l : List Bool} (C : Cx A (ER L f cd) h₀ defs names) (hl : l.length ≤ 1000) (hphi : (phi x y l).length ≤ 1000) :
    HR prog w A (ER L f cd) h₀ noMd [("word", VStr (stB l)), ("images", VList [VStr (stB x), VStr (stB y)])] noX (execs dRew.body (ER L f cd)) (VStr (stB (phi x y l))) := by
  refine hr_return onNo ?_
  rw [← join_sel]
  refine ev_join (xs := l.map fun b => stB (sel x y b)) (sep := "") ?_ ?_ ?_
  · exact ev_str
  · rw [List.map_map]
    refine ev_compD (cl := [("images", L + 1)]) (ρc := [("images", VList [VStr (stB x), VStr (stB y)])]) l (fun b => VStr (l1 b)) _ ?_ ?_ ?_ ?_ ?_
    · refine ⟨?_, ?_, ?_, ?_, ?_, ?_⟩
      · kernel_rfl!
      · intro n c h; rw [cellsR]; exact h
      · refine List.forall_mem_cons.mpr ⟨⟨by (dsimp only; walk_at "lk"), by kernel_rfl!, by kernel_rfl!, by kernel_rfl!⟩, ?_⟩
        exact List.forall_mem_nil _
      · decide +kernel
      · rfl
      · decide +kernel
    · exact it_word C.handled (ev_name C.kind (by walk_at "lk") (by kernel_rfl!))
    · kernel_rfl!
    · intro b C' hb
      refine ev_sub (V₁ := VList [VStr (stB x), VStr (stB y)]) (V₂ := VInt (Txt.find "ab" (l1 b))) ?_ ?_ ?_
      · exact ev_name rfl (by walk_at "lk") (by kernel_rfl!)
      · exact ev_find ev_str (ev_name rfl (by walk_at "lk") (by kernel_rfl!))
      · intro u v s av ho hg hu hv
        refine op_itemL hu hv ?_ ?_ ?_ (fun _ _ => rfl)
        · cases b <;> decide +kernel
        · cases b <;> decide +kernel
        · cases b
          · rw [show (Txt.find "ab" (l1 false)).toNat = 0 by decide +kernel]; rfl
          · rw [show (Txt.find "ab" (l1 true)).toNat = 1 by decide +kernel]; rfl
    · rw [sizeLine_eq]; omega
  · exact joinOk_sel hphi

theorem celR (hL : h₀.objs.size ≤ L) : CelOk (ER L f cd) h₀ := by
  have c1 : ∀ n c, (ER L f cd).cells.lookup n = some c → n = "images" ∧ c = L + 1 := by
    intro n c h
    rw [cellsR, List.lookup_cons] at h
    by_cases h1 : n = "images"
    · rw [show (n == Str.ofString "images") = true by simpa using h1] at h; exact ⟨h1, (Option.some.inj h).symm⟩
    · rw [show (n == Str.ofString "images") = false by simpa using h1] at h; cases h
  refine ⟨fun n n' c h h' => (c1 n c h).1.trans (c1 n' c h').1.symm, fun n c h => ?_, fun n c h => ?_⟩
  · rw [(c1 n c h).2]; exact Heap.get?_none_of_le (Nat.le_trans hL (Nat.le_succ _))
  · rw [(c1 n c h).2]; exact Nat.ne_of_gt (Nat.lt_succ_self L)

set_option maxRecDepth 20000 in
theorem rew_ok {x y l : List Bool} (hroom : A.depth < recursionLimit) (hh : A.handled = none) (hl : l.length ≤ 1000) (hphi : (phi x y l).length ≤ 1000) :
    CallOk prog w A defs names dRew [VStr (stB l), VList [VStr (stB x), VStr (stB y)]] (VStr (stB (phi x y l))) := by
  intro s av f vs ho hf hG hvs E Q hq
  obtain ⟨c', o, pm, doc, h1, h2, h3⟩ := hf
  cases hvs with | cons hv r => cases r with | cons hu r => cases r with | nil =>
  rename_i v u
  obtain ⟨N, mg, mb, consts, objs, G⟩ := hG
  refine wpAny_call (call_cells_ret (binds := [("word", v), ("images", u)]) hroom h1 h2 G.nolimit h3 (by rfl) ?_ (fun h₁ tk F X => ?_) (by rfl) (by rfl) (by rfl))
  · refine List.forall_mem_cons.mpr ⟨.inl (by kernel_rfl!), List.forall_mem_cons.mpr ⟨.inr ⟨by kernel_rfl!, by rfl⟩, List.forall_mem_nil _⟩⟩
  generalize hL : s.heap.objs.size = L at F X ⊢
  have k : Kp s.heap h₁ := F.keep
  have C : Cx (A.deeper (ER L f (.ref c'))) (ER L f (.ref c')) s.heap defs names := ⟨by kernel_rfl!, by kernel_rfl!, by kernel_rfl!, hh, ⟨N, mg, mb, consts, objs, G⟩⟩
  have H := @rew_hr prog w (A.deeper (ER L f (.ref c'))) L f (.ref c') s.heap defs names x y l C hl hphi
  have hF : FrameIs (ER L f (.ref c')) s.heap [("word", VStr (stB l)), ("images", VList [VStr (stB x), VStr (stB y)])] av h₁ := by
    refine ⟨_, F, fun z V hz => ?_, fun n c hc => ⟨_, X.cell n c hc⟩⟩
    by_cases hz1 : z = "word"
    · subst hz1
      rw [List.lookup_cons_self] at hz
      obtain rfl := Option.some.inj hz
      exact ⟨v, VP.up _ hv (Kp.sqk k), .inl ⟨by kernel_rfl!, by rfl⟩⟩
    · rw [List.lookup_cons, show (z == Str.ofString "word") = false by simpa using hz1] at hz
      by_cases hz2 : z = "images"
      · subst hz2
        rw [List.lookup_cons_self] at hz
        obtain rfl := Option.some.inj hz
        exact ⟨u, VP.up _ hu (Kp.sqk k), .inr ⟨.inl (by kernel_rfl!), L + 1, by kernel_rfl!, X.cell "images" (L + 1) (by kernel_rfl!)⟩⟩
      · rw [List.lookup_cons, show (z == Str.ofString "images") = false by simpa using hz2] at hz; cases hz
  refine @H { s with heap := h₁, toks := tk } av (fun _ h => h.elim) (ho.up k) hF trivial _ _ fun v' s' hv' hk' mv => ?_
  obtain ⟨h2', t2, rfl, _⟩ := mv
  exact hq v' _ hv' (Kps.of hk')
end
end Mine

end
section
namespace Mine
local macro_rules | `(tactic| walk_at "lk") => `(tactic| (repeat (first | with_reducible exact lk_head | refine lk_tail (by kernel_rfl!) ?_)))
local macro_rules | `(tactic| walk_at "sub") => `(tactic| ((repeat (refine List.forall_mem_cons.mpr ⟨by (dsimp only; walk_at "lk"), ?_⟩)); exact List.forall_mem_nil _))

theorem apart_mem : ∀ {cs : List (Str × Addr)}, (cs.Pairwise fun x y => x.2 ≠ y.2) → ∀ {p q}, p ∈ cs → q ∈ cs → p.2 = q.2 → p = q
  | [], _, _, _, h, _, _ => by cases h
  | c :: cs, hp, p, q, h1, h2, e => by
    rw [List.pairwise_cons] at hp
    rcases List.mem_cons.mp h1 with h1 | h1 <;> rcases List.mem_cons.mp h2 with h2 | h2
    · exact h1.trans h2.symm
    · exact absurd (h1 ▸ e) (hp.1 q h2)
    · exact absurd (h2 ▸ e).symm (hp.1 p h1)
    · exact apart_mem hp.2 h1 h2 e
theorem celOk_list {env : Env} {h₀ : Heap} (ha : env.cells.Pairwise fun x y => x.2 ≠ y.2) (hb : ∀ p ∈ env.cells, env.locals < p.2) (hL : h₀.objs.size ≤ env.locals) : CelOk env h₀ :=
  ⟨fun n n' c h h' => congrArg Prod.fst (apart_mem ha (mem_of_lookup h) (mem_of_lookup h') rfl), fun n c h => Heap.get?_none_of_le (Nat.le_trans hL (Nat.le_of_lt (hb _ (mem_of_lookup h)))), fun n c h => Nat.ne_of_gt (hb _ (mem_of_lookup h))⟩

def dLaw2 : DefItem := sItem (nth P2 8)
abbrev E2 (L f : Addr) (cd : Value) : Env := envOfC dLaw2.name dLaw2.scope L f cd
def st2 (k : Nat) : Stmt := dLaw2.body.getD k (.Pass ⟨0, 0, 0, 0⟩)
theorem body2 : dLaw2.body = [st2 0, st2 1, st2 2, st2 3, st2 4, st2 5, st2 6, st2 7, st2 8, .Return (some (.Constant (.bool true) 0 ⟨51, 11, 51, 15⟩)) ⟨51, 4, 51, 15⟩] := by kernel_rfl!
abbrev cE2 (L : Addr) : List (Str × Addr) := [(("pairs" : Str), L + 1 + 1 + 1 + 1 + 1 + 1), (("images" : Str), L + 1 + 1 + 1 + 1 + 1), (("size" : Str), L + 1 + 1 + 1 + 1), (("words" : Str), L + 1 + 1 + 1), (("k" : Str), L + 1 + 1), (("script" : Str), L + 1)]

theorem sub_cells {env : Env} {cl : List (Str × Addr)} (h : ∀ p ∈ cl, env.cells.lookup p.1 = some p.2) : ∀ n c, cl.lookup n = some c → env.cells.lookup n = some c := fun n c e => h (n, c) (mem_of_lookup e)
theorem lt1 (L : Nat) : L < L + 1 := by omega
theorem lt2 (L : Nat) : L < L + 1 + 1 := by omega
theorem lt3 (L : Nat) : L < L + 1 + 1 + 1 := by omega
theorem lt4 (L : Nat) : L < L + 1 + 1 + 1 + 1 := by omega
theorem lt5 (L : Nat) : L < L + 1 + 1 + 1 + 1 + 1 := by omega
theorem lt6 (L : Nat) : L < L + 1 + 1 + 1 + 1 + 1 + 1 := by omega
theorem item2 {V W : VP} : ∀ {k : Nat}, k < 2 → [V, W][((k : Nat) : Int).toNat]? = some (if k = 0 then V else W)
  | 0, _ => rfl
  | 1, _ => rfl
section
variable {prog : Program} {w : World} {A : Around} {L f : Addr} {cd : Value} {h₀ : Heap} {defs : List DefItem} {names : List Str} {ρ : Locs} {V : VP}
theorem cells2 : (E2 L f cd).cells = cE2 L := by kernel_rfl!
theorem locals2 : (E2 L f cd).locals = L := by kernel_rfl!
theorem cel2 (hL : h₀.objs.size ≤ L) : CelOk (E2 L f cd) h₀ := by
  refine celOk_list ?_ ?_ ?_
  · rw [cells2]
    simp [List.pairwise_cons, Nat.add_assoc]
  · rw [cells2, locals2]
    intro p hp
    simp only [List.mem_cons, List.not_mem_nil, or_false] at hp
    rcases hp with rfl | rfl | rfl | rfl | rfl | rfl <;> first | exact lt6 L | exact lt5 L | exact lt4 L | exact lt3 L | exact lt2 L | exact lt1 L
  · rw [locals2]; exact hL

/-- the two numbers -/
def cel (ns : List Int) (k : Nat) : Int := (if k = 0 then 23 else 83) + (pickL ns (some (k : Int)) none (some 2)).sum

set_option maxRecDepth 20000 in
set_option maxHeartbeats 1000000 in
theorem t0 {ns : List Int} (C : Cx A (E2 L f cd) h₀ defs names) (fx : Fx (E2 L f cd) h₀ noMd) (n1 : ("range" : Str) ∉ names) (n2 : ("sum" : Str) ∉ names) (hns : ns.length ≤ 63) :
    HT prog w A (E2 L f cd) h₀ noMd [("script", VList (ns.map VInt))] noX (exec (st2 0) (E2 L f cd)) [("cells", VList ((List.range 2).map fun k => VInt (cel ns k))), ("script", VList (ns.map VInt))] noX := by
  refine ht_assign_compD (cl := [("script", L + 1)]) (ρc := [("script", VList (ns.map VInt))]) (hX := onNo) (List.range 2) (fun (k : Nat) => VInt k) (fun k => VInt (cel ns k)) fx ?_ ?_ ?_ ?_ ?_ ?_
  · refine ⟨?_, ?_, ?_, ?_, ?_, ?_⟩
    · kernel_rfl!
    · exact sub_cells (List.forall_mem_cons.mpr ⟨by kernel_rfl!, List.forall_mem_nil _⟩)
    · refine List.forall_mem_cons.mpr ⟨⟨by (dsimp only; walk_at "lk"), by kernel_rfl!, by kernel_rfl!, by kernel_rfl!⟩, ?_⟩
      exact List.forall_mem_nil _
    · decide +kernel
    · rfl
    · decide +kernel
  · refine it_range C.handled ?_ ev_int (by omega)
    exact ev_builtin C (by decide +kernel) n1 (by kernel_rfl!) (by decide +kernel) (by decide +kernel) (by kernel_rfl!)
  · kernel_rfl!
  · intro k C' hk
    have hk' : k < 2 := List.mem_range.mp hk
    unfold cel
    refine ev_BinOp (V₁ := VInt (if k = 0 then 23 else 83)) (V₂ := VInt (pickL ns (some (k : Int)) none (some 2)).sum) ?_ ?_ ?_
    · refine ev_sub (V₁ := VList [VInt 23, VInt 83]) (V₂ := VInt k) ?_ ?_ ?_
      · exact ev_list (ae_cons ev_int (ae_cons ev_int ae_nil))
      · exact ev_name rfl (by walk_at "lk") (by kernel_rfl!)
      · intro a b s av ho hg ha hb
        refine op_itemL ha hb (by omega) (by omega) ?_ (fun _ _ => rfl)
        rw [item2 hk']
        split <;> rfl
    · refine ev_callB (Vs := [VList ((pickL ns (some (k : Int)) none (some 2)).map VInt)]) (id := "sum") ?_ ?_ ?_
      · exact ev_builtin (cx_comp C rfl) (by decide +kernel) n2 (by kernel_rfl!) (by decide +kernel) (by decide +kernel) (by kernel_rfl!)
      · refine ae_cons ?_ ae_nil
        rw [← pickL_map]
        refine ev_slice (kl := some (k : Int)) (ku := none) (ks := some 2) (V₁ := VList (ns.map VInt)) (ev_name rfl (by walk_at "lk") (by kernel_rfl!)) (ep_some (ev_name rfl (by walk_at "lk") (by kernel_rfl!))) ep_none (ep_some ev_int) ?_
        intro a vl vu vs sl s av ho hg ha hvl hvu hvs hsl
        exact op_sliceL ho ha hvl hvu hvs hsl (by decide) (by rw [List.length_map, sizeLine_eq]; omega)
      · intro vs s av ho hg hvs
        exact op_sum C.handled hvs
    · intro a b s av ho hg ha hb
      exact op_addI ha hb
  · exact .inl (by kernel_rfl!)
  · rw [sizeLine_eq]; simp

set_option maxRecDepth 20000 in
theorem t1 (fx : Fx (E2 L f cd) h₀ noMd) : HT prog w A (E2 L f cd) h₀ noMd ρ noX (exec (st2 1) (E2 L f cd)) (("words", VList [VStr (stB [])]) :: ρ) noX := by
  refine ht_assign fx onNo ?_ (.inr ⟨by kernel_rfl!, _, rfl⟩)
  exact ev_list (ae_cons ev_str ae_nil)

/-- the words behind i rounds -/
def WL : Nat → List (List Bool)
  | 0 => [[]]
  | i + 1 => WL i ++ ((WL i).filter fun w => decide (w.length = i)).flatMap fun w => [false, true].map fun b => w ++ [b]
theorem stB_add (l : List Bool) (b : Bool) : stB l ++ l1 b = stB (l ++ [b]) := by
  apply str_ext
  rw [Str.cps_append, stB_toList]
  simp [stB, l1]
theorem WL_len : ∀ i, i < 3 → (WL i).length ≤ 7 := by decide
theorem WL_short : ∀ i, i < 3 → ∀ w ∈ WL i, w.length ≤ 3 := by decide

def cmpE : Expr := match st2 2 with | .For _ _ [.Assign _ (.BinOp _ _ b _) _] _ _ => b | _ => .Name "" ⟨0, 0, 0, 0⟩
set_option maxRecDepth 20000 in
set_option maxHeartbeats 1000000 in
theorem t2_comp {i : Nat} (C : Cx A (E2 L f cd) h₀ defs names) (n2 : ("len" : Str) ∉ names) (hi : i < 3) :
    Ev prog w A (E2 L f cd) (frP (E2 L f cd) h₀ [("size", VInt i), ("words", VList ((WL i).map fun w => VStr (stB w))), ("cells", V)]) cmpE (VList (((WL i).filter fun w => decide (w.length = i)).flatMap fun w => [false, true].map fun b => VStr (stB (w ++ [b])))) := by
  refine ev_comp2 (cl := [("size", L + 1 + 1 + 1 + 1)]) (ρc := [("size", VInt i)]) (WL i) (fun w => VStr (stB w)) (fun w => decide (w.length = i)) [false, true] (fun b => VStr (l1 b)) (fun w b => VStr (stB (w ++ [b]))) ?_ ?_ ?_ ?_ ?_ ?_ ?_ ?_ ?_ ?_
  · refine ⟨?_, ?_, ?_, ?_, ?_, ?_⟩
    · kernel_rfl!
    · exact sub_cells (List.forall_mem_cons.mpr ⟨by kernel_rfl!, List.forall_mem_nil _⟩)
    · refine List.forall_mem_cons.mpr ⟨⟨by (dsimp only; walk_at "lk"), by kernel_rfl!, by kernel_rfl!, by kernel_rfl!⟩, ?_⟩
      exact List.forall_mem_nil _
    · decide +kernel
    · rfl
    · decide +kernel
  · exact it_list C.handled (ev_name C.kind (by walk_at "lk") (by kernel_rfl!))
  · kernel_rfl!
  · kernel_rfl!
  · intro d C' hd
    refine tst_Compare (V₁ := VInt ((stB d).length : Nat)) (V₂ := VInt i) ?_ (ev_name rfl (by walk_at "lk") (by kernel_rfl!)) ?_
    · refine ev_callB (Vs := [VStr (stB d)]) (id := "len") ?_ ?_ ?_
      · exact ev_builtin (cx_comp C rfl) (by decide +kernel) n2 (by kernel_rfl!) (by decide +kernel) (by decide +kernel) (by kernel_rfl!)
      · exact ae_cons (ev_name rfl (by walk_at "lk") (by kernel_rfl!)) ae_nil
      · intro vs s av ho hg hvs
        exact op_lenS (by rw [stB_len]; have := WL_short i hi d hd; omega) hvs
    · intro a b s av ho hg ha hb
      refine (op_eqI ha hb).mono (vbool_eq ?_ av)
      rw [stB_len, Bool.eq_iff_iff]; simp; omega
  · intro d C' hd ht
    refine it_word (l := [false, true]) C.handled ?_
    exact ev_str
  · intro d e C' hd he
    rw [← stB_add]
    refine ev_BinOp (V₁ := VStr (stB d)) (V₂ := VStr (l1 e)) (ev_name rfl (by walk_at "lk") (by kernel_rfl!)) (ev_name rfl (by walk_at "lk") (by kernel_rfl!)) ?_
    intro a b s av ho hg ha hb
    exact op_addS (by rw [stB_len, sizeLine_eq]; have := WL_short i hi d hd; show _ + 1 ≤ _; omega) ha hb
  · intro V; walk_at "sub"
  · intro V W; walk_at "sub"
  · rw [sizeLine_eq]; have := WL_len i hi; simp; omega

set_option maxRecDepth 20000 in
set_option maxHeartbeats 1000000 in
theorem t2 (C : Cx A (E2 L f cd) h₀ defs names) (fx : Fx (E2 L f cd) h₀ noMd) (n1 : ("range" : Str) ∉ names) (n2 : ("len" : Str) ∉ names) (hρ : ρ.lookup ("words" : Str) = some (VList [VStr (stB [])])) (hc : ρ.lookup ("cells" : Str) = some V) :
    HT prog w A (E2 L f cd) h₀ noMd ρ noX (exec (st2 2) (E2 L f cd)) [("words", VList ((WL 3).map fun w => VStr (stB w))), ("cells", V)] noX := by
  refine ht_for_range (x := "size") (hX₀ := onNo) 3 (fun i => [("words", VList ((WL i).map fun w => VStr (stB w))), ("cells", V)]) (fun _ => noX) fx (fun _ => onNo) C.handled ?_ ev_int (by omega) ?_ (fun _ h => h) (.inr ⟨by kernel_rfl!, _, rfl⟩) ?_
  · exact ev_builtin C (by decide +kernel) n1 (by kernel_rfl!) (by decide +kernel) (by decide +kernel) (by kernel_rfl!)
  · exact List.forall_mem_cons.mpr ⟨hρ, List.forall_mem_cons.mpr ⟨hc, List.forall_mem_nil _⟩⟩
  · intro i hi
    have e : (WL (i + 1)).map (fun w => VStr (stB w)) = ((WL i).map fun w => VStr (stB w)) ++ (((WL i).filter fun w => decide (w.length = i)).flatMap fun w => [false, true].map fun b => VStr (stB (w ++ [b]))) := by
      rw [WL, List.map_append, List.map_flatMap]; simp
    rw [e]
    refine ht_sub (ρ₁ := ("words", VList (((WL i).map fun w => VStr (stB w)) ++ (((WL i).filter fun w => decide (w.length = i)).flatMap fun w => [false, true].map fun b => VStr (stB (w ++ [b]))))) :: [("size", VInt i), ("words", VList ((WL i).map fun w => VStr (stB w))), ("cells", V)]) ?_ (by walk_at "sub")
    refine ht_cons (ht_assign fx onNo ?_ (.inr ⟨by kernel_rfl!, _, rfl⟩)) ht_nil
    refine ev_BinOp (V₁ := VList ((WL i).map fun w => VStr (stB w))) (V₂ := VList (((WL i).filter fun w => decide (w.length = i)).flatMap fun w => [false, true].map fun b => VStr (stB (w ++ [b])))) (ev_name C.kind (by walk_at "lk") (by kernel_rfl!)) (t2_comp C n2 hi) ?_
    intro a b s av ho hg ha hb
    refine op_addL ?_ ho ha hb
    rw [← List.length_append, ← e, sizeLine_eq, List.length_map]
    have h3 : ∀ i, i < 3 → (WL (i + 1)).length ≤ 15 := by decide
    have := h3 i hi
    omega

/-- the words in order -/
def wl : List (List Bool) := [[], [false], [false, false], [false, false, false], [false, false, true], [false, true], [false, true, false], [false, true, true], [true], [true, false], [true, false, false], [true, false, true], [true, true], [true, true, false], [true, true, true]]
theorem wl_perm : (wl.map stB).Perm ((WL 3).map stB) := by
  refine List.Perm.map _ ?_
  rw [← List.isPerm_iff]
  decide
theorem wl_sorted : (wl.map stB).Pairwise leS := by
  have : (wl.map fun l => l.map letter).Pairwise (fun a b => a ≤ b) := by decide
  rw [List.pairwise_map] at this ⊢
  refine this.imp fun {a b} h => ?_
  unfold leS; rw [stB_toList, stB_toList]; exact h

set_option maxRecDepth 20000 in
set_option maxHeartbeats 1000000 in
theorem t3 (C : Cx A (E2 L f cd) h₀ defs names) (fx : Fx (E2 L f cd) h₀ noMd) (n1 : ("sorted" : Str) ∉ names) (hρ : ρ.lookup ("words" : Str) = some (VList ((WL 3).map fun w => VStr (stB w)))) :
    HT prog w A (E2 L f cd) h₀ noMd ρ noX (exec (st2 3) (E2 L f cd)) (("words", VList (wl.map fun w => VStr (stB w))) :: ρ) noX := by
  refine ht_assign fx onNo ?_ (.inr ⟨by kernel_rfl!, _, rfl⟩)
  refine ev_callB (Vs := [VList ((WL 3).map fun w => VStr (stB w))]) (id := "sorted") ?_ ?_ ?_
  · exact ev_builtin C (by decide +kernel) n1 (by kernel_rfl!) (by decide +kernel) (by decide +kernel) (by kernel_rfl!)
  · exact ae_cons (ev_name C.kind hρ (by kernel_rfl!)) ae_nil
  · intro vs s av ho hg hvs
    have e1 : (WL 3).map (fun w => VStr (stB w)) = ((WL 3).map stB).map VStr := by rw [List.map_map]; rfl
    have e2 : wl.map (fun w => VStr (stB w)) = (wl.map stB).map VStr := by rw [List.map_map]; rfl
    rw [e1] at hvs
    rw [e2]
    exact op_sorted hvs (by rw [List.length_map]; decide) ho fun ys' => sorted_unique wl_perm wl_sorted
end
end Mine

end
section
namespace Mine
local macro_rules | `(tactic| walk_at "lk") => `(tactic| (repeat (first | with_reducible exact lk_head | refine lk_tail (by kernel_rfl!) ?_)))
local macro_rules | `(tactic| walk_at "sub") => `(tactic| ((repeat (refine List.forall_mem_cons.mpr ⟨by (dsimp only; walk_at "lk"), ?_⟩)); exact List.forall_mem_nil _))

/-- two images -/
abbrev imV (x y : List Bool) : VP := VList [VStr (stB x), VStr (stB y)]
/-- the six texts of a pair -/
def six (x y : List Bool) : List Str := ["a", "0", "b", stB y, "0", stB x]
abbrev wordsV : VP := VList (wl.map fun w => VStr (stB w))
def at15 (i : Int) : List Bool := wl.getD (i.fmod 15).toNat []
theorem fmod15 (n : Int) : 0 ≤ n.fmod 15 ∧ n.fmod 15 < 15 := ⟨Int.fmod_nonneg_of_pos n (by decide), Int.fmod_lt_of_pos n (by decide)⟩
theorem at15_get (i : Int) : (wl.map fun w => VStr (stB w))[(i.fmod 15).toNat]? = some (VStr (stB (at15 i))) := by
  have h := fmod15 i
  have hl : (i.fmod 15).toNat < wl.length := by show _ < 15; omega
  rw [List.getElem?_map]
  unfold at15
  rw [List.getD, List.getElem?_eq_getElem hl]; rfl
theorem at15_short (i : Int) : (at15 i).length ≤ 3 := by
  have h := fmod15 i
  have hl : (i.fmod 15).toNat < wl.length := by show _ < 15; omega
  have hall : ∀ w ∈ wl, w.length ≤ 3 := by decide
  unfold at15
  rw [List.getD, List.getElem?_eq_getElem hl]
  exact hall _ (List.getElem_mem _)

section
variable {prog : Program} {w : World} {A : Around} {L f : Addr} {cd : Value} {h₀ : Heap} {defs : List DefItem} {names : List Str} {ρ : Locs} {V : VP}

set_option maxRecDepth 20000 in
set_option maxHeartbeats 1000000 in
theorem t4 {c0 c1 : Int} (C : Cx A (E2 L f cd) h₀ defs names) (fx : Fx (E2 L f cd) h₀ noMd) :
    HT prog w A (E2 L f cd) h₀ noMd [("words", wordsV), ("cells", VList ([c0, c1].map VInt))] noX (exec (st2 4) (E2 L f cd))
      (("images", VOwn h₀ ([c0, c1].map fun c => imV (at15 c) (at15 (c.fdiv 15)))) :: [("words", wordsV), ("cells", VList ([c0, c1].map VInt))]) noX := by
  refine ht_assign fx onNo ?_ (.inr ⟨by kernel_rfl!, _, rfl⟩)
  refine ev_compOwnD (cl := [("words", L + 1 + 1 + 1)]) (ρc := [("words", wordsV)]) [c0, c1] VInt (fun c => imV (at15 c) (at15 (c.fdiv 15))) ?_ ?_ ?_ ?_ ?_
  · refine ⟨?_, ?_, ?_, ?_, ?_, ?_⟩
    · kernel_rfl!
    · exact sub_cells (List.forall_mem_cons.mpr ⟨by kernel_rfl!, List.forall_mem_nil _⟩)
    · refine List.forall_mem_cons.mpr ⟨⟨by (dsimp only; walk_at "lk"), by kernel_rfl!, by kernel_rfl!, by kernel_rfl!⟩, ?_⟩
      exact List.forall_mem_nil _
    · decide +kernel
    · rfl
    · decide +kernel
  · exact it_list C.handled (ev_name C.kind (by walk_at "lk") (by kernel_rfl!))
  · kernel_rfl!
  · intro c C' hc
    refine ev_list (ae_cons ?_ (ae_cons ?_ ae_nil))
    · refine ev_sub (V₁ := wordsV) (V₂ := VInt (c.fmod 15)) (ev_name rfl (by walk_at "lk") (by kernel_rfl!)) ?_ ?_
      · refine ev_BinOp (V₁ := VInt c) (V₂ := VInt 15) (ev_name rfl (by walk_at "lk") (by kernel_rfl!)) ev_int ?_
        intro a b s av ho hg ha hb
        exact op_modI (by decide) ha hb
      · intro a b s av ho hg ha hb
        have h := fmod15 c
        exact op_itemL ha hb h.1 (by omega) (at15_get c) (fun _ _ => rfl)
    · refine ev_sub (V₁ := wordsV) (V₂ := VInt ((c.fdiv 15).fmod 15)) (ev_name rfl (by walk_at "lk") (by kernel_rfl!)) ?_ ?_
      · refine ev_BinOp (V₁ := VInt (c.fdiv 15)) (V₂ := VInt 15) ?_ ev_int ?_
        · refine ev_BinOp (V₁ := VInt c) (V₂ := VInt 15) (ev_name rfl (by walk_at "lk") (by kernel_rfl!)) ev_int ?_
          intro a b s av ho hg ha hb
          exact op_divI (by decide) (PyProof.noPylong_small (by decide)) ha hb
        · intro a b s av ho hg ha hb
          exact op_modI (by decide) ha hb
      · intro a b s av ho hg ha hb
        have h := fmod15 (c.fdiv 15)
        exact op_itemL ha hb h.1 (by omega) (at15_get _) (fun _ _ => rfl)
  · rw [sizeLine_eq]; simp

set_option maxRecDepth 20000 in
set_option maxHeartbeats 1000000 in
theorem t5 {ds : List (List Bool × List Bool)} (C : Cx A (E2 L f cd) h₀ defs names) (fx : Fx (E2 L f cd) h₀ noMd) (hd : ds.length ≤ 1000) :
    HT prog w A (E2 L f cd) h₀ noMd [("images", VOwn h₀ (ds.map fun d => imV d.1 d.2)), ("words", wordsV)] noX (exec (st2 5) (E2 L f cd))
      (("pairs", VOwn h₀ (ds.map fun d => VList ((six d.1 d.2).map VStr))) :: [("images", VOwn h₀ (ds.map fun d => imV d.1 d.2)), ("words", wordsV)]) noX := by
  refine ht_assign fx onNo ?_ (.inr ⟨by kernel_rfl!, _, rfl⟩)
  refine ev_compOwnP (cl := []) (ρc := []) ds (fun d => VStr (stB d.1)) (fun d => VStr (stB d.2)) (fun d => VList ((six d.1 d.2).map VStr)) C.handled ?_ ?_ ?_ ?_ ?_ ?_
  · refine caps_nil ?_ ?_ ?_ ?_
    · kernel_rfl!
    · decide +kernel
    · rfl
    · decide +kernel
  · exact it_listQ C.handled (Ev.imp (ev_name C.kind (V := VOwn h₀ (ds.map fun d => imV d.1 d.2)) (by walk_at "lk") (by kernel_rfl!)) own_list)
  · kernel_rfl!
  · kernel_rfl!
  · intro d C' hd
    refine ev_list (ae_cons ?_ (ae_cons ?_ (ae_cons ?_ (ae_cons ?_ (ae_cons ?_ (ae_cons ?_ ae_nil)))))) (by rw [List.length_map, sizeLine_eq]; show 6 ≤ 16777216; decide)
    · exact ev_str
    · exact ev_str
    · exact ev_str
    · exact ev_name rfl (by walk_at "lk") (by kernel_rfl!)
    · exact ev_str
    · exact ev_name rfl (by walk_at "lk") (by kernel_rfl!)
  · rw [sizeLine_eq]; omega

-- no list is another: by their lengths, or by what they hold
theorem ne_ref_str {Ws : List VP} {Us : List VP} {Xs : List VP} {x : Str} {Vs : List VP} : ∀ av h vs, Items av h vs (VList Xs :: Ws) → Items av h vs (VStr x :: Us) → False := by
  intro av h vs h1 h2
  cases h1 with | cons a1 _ => cases h2 with | cons b1 _ =>
  obtain ⟨a, us, e, _⟩ := a1
  obtain ⟨t, e'⟩ := b1
  rw [e] at e'; cases e'
theorem ne_ref_len {Ws Us Xs Ys : List VP} (hn : Xs.length ≠ Ys.length) : ∀ av h vs, Items av h vs (VList Xs :: Ws) → Items av h vs (VList Ys :: Us) → False := by
  intro av h vs h1 h2
  cases h1 with | cons a1 _ => cases h2 with | cons b1 _ =>
  obtain ⟨a, us, rfl, _, ⟨o, e, _, n, d⟩, hi⟩ := a1
  obtain ⟨a', us', e', _, ⟨o', e2, _, n', d'⟩, hi'⟩ := b1
  cases e'
  rw [e] at e2
  cases e2
  rw [d] at d'
  cases d'
  exact hn (hi.length.symm.trans hi'.length)
theorem sep_strs {Ws : List VP} {xs : List Str} (hne : ∀ av h vs, Items av h vs Ws → Items av h vs (xs.map VStr) → False) : Sep Ws (VList (xs.map VStr)) := by
  refine sep_list hne fun U hU => ?_
  obtain ⟨x, _, rfl⟩ := List.mem_map.mp hU
  exact sep_str
theorem sep_im {x y x' y' : List Bool} {W : VP} : Sep [imV x y, W] (imV x' y') := sep_strs (xs := [stB x', stB y']) (ne_ref_str (Vs := []))
theorem sep_words {Ws : List VP} (h : Ws.length ≠ 15) : Sep Ws wordsV := by
  have e2 : wl.map (fun w => VStr (stB w)) = (wl.map stB).map VStr := by rw [List.map_map]; rfl
  unfold wordsV
  rw [e2]
  exact sep_strs (ne_len (by rw [List.length_map, List.length_map]; exact h))
theorem six_len (x y : List Bool) : ((six x y).map VStr).length = 6 := rfl

set_option maxRecDepth 20000 in
set_option maxHeartbeats 1000000 in
theorem t6 {x0 y0 x1 y1 : List Bool} (C : Cx A (E2 L f cd) h₀ defs names) (hroom : A.depth < recursionLimit) (fx : Fx (E2 L f cd) h₀ noMd) (d1 : dRew ∈ defs) (l0 : x0.length ≤ 3) (l1 : y0.length ≤ 3) (l2 : x1.length ≤ 3) (l3 : y1.length ≤ 3) :
    HW prog w A (E2 L f cd) h₀ [("pairs", VOwn h₀ [VList ((six x0 y0).map VStr), VList ((six x1 y1).map VStr)]), ("images", VOwn h₀ [imV x0 y0, imV x1 y1]), ("words", wordsV)] (exec (st2 6) (E2 L f cd))
      (("images", VOwn h₀ ([imV x0 y0, imV x1 y1] ++ [imV (phi x1 y1 x0) (phi x1 y1 y0)])) :: [("pairs", VOwn h₀ [VList ((six x0 y0).map VStr), VList ((six x1 y1).map VStr)]), ("words", wordsV)]) := by
  refine ht_appendOwn fx (by walk_at "lk") ?_ ?_ sep_im ?_ (by simp)
  · refine ev_compD (hX := onNo) (cl := [("images", L + 1 + 1 + 1 + 1 + 1)]) (ρc := [("images", VOwn h₀ [imV x0 y0, imV x1 y1])]) [x0, y0] (fun l => VStr (stB l)) (fun l => VStr (stB (phi x1 y1 l))) ?_ ?_ ?_ ?_ ?_
    · refine ⟨?_, ?_, ?_, ?_, ?_, ?_⟩
      · kernel_rfl!
      · exact sub_cells (List.forall_mem_cons.mpr ⟨by kernel_rfl!, List.forall_mem_nil _⟩)
      · refine List.forall_mem_cons.mpr ⟨⟨by (dsimp only; walk_at "lk"), by kernel_rfl!, by kernel_rfl!, by kernel_rfl!⟩, ?_⟩
        exact List.forall_mem_nil _
      · decide +kernel
      · rfl
      · decide +kernel
    · refine it_list C.handled ?_
      refine ev_sub (V₁ := VList [imV x0 y0, imV x1 y1]) (V₂ := VInt 0) (Ev.imp (ev_name C.kind (V := VOwn h₀ [imV x0 y0, imV x1 y1]) (by walk_at "lk") (by kernel_rfl!)) own_list) ev_int ?_
      intro a b s av ho hg ha hb
      exact op_itemL ha hb (by decide) (by decide) rfl (fun _ _ => rfl)
    · kernel_rfl!
    · intro l C' hl
      have hl3 : l.length ≤ 3 := by
        simp only [List.mem_cons, List.not_mem_nil, or_false] at hl
        rcases hl with rfl | rfl <;> assumption
      have hp := phi_len (l := l) l2 l3
      refine ev_callD (d := dRew) (Vs := [VStr (stB l), imV x1 y1]) (cx_comp C rfl) d1 rfl (by kernel_rfl!) ?_ ?_
      · refine ae_cons (ev_name rfl (by walk_at "lk") (by kernel_rfl!)) (ae_cons ?_ ae_nil)
        refine ev_sub (V₁ := VList [imV x0 y0, imV x1 y1]) (V₂ := VInt 1) (Ev.imp (ev_name rfl (V := VOwn h₀ [imV x0 y0, imV x1 y1]) (by walk_at "lk") (by kernel_rfl!)) own_list) ev_int ?_
        intro a b s av ho hg ha hb
        exact op_itemL ha hb (by decide) (by decide) rfl (fun _ _ => rfl)
      · exact rew_ok hroom C.handled (by omega) (by omega)
    · rw [sizeLine_eq]; simp
  · refine List.forall_mem_cons.mpr ⟨⟨by (dsimp only; walk_at "lk"), ?_, by kernel_rfl!⟩, List.forall_mem_cons.mpr ⟨⟨by (dsimp only; walk_at "lk"), ?_, by kernel_rfl!⟩, List.forall_mem_nil _⟩⟩
    · refine sep_own (ne_ref_len (by rw [six_len]; simp)) ?_
      refine List.forall_mem_cons.mpr ⟨?_, List.forall_mem_cons.mpr ⟨?_, List.forall_mem_nil _⟩⟩
      · exact sep_strs (ne_len (by rw [six_len]; simp))
      · exact sep_strs (ne_len (by rw [six_len]; simp))
    · exact sep_words (by simp)
  · exact List.forall_mem_cons.mpr ⟨sep_im, List.forall_mem_cons.mpr ⟨sep_im, List.forall_mem_nil _⟩⟩

set_option maxRecDepth 20000 in
set_option maxHeartbeats 1000000 in
theorem t7 {x0 y0 x1 y1 : List Bool} {I2 : VP} (C : Cx A (E2 L f cd) h₀ defs names) (fx : Fx (E2 L f cd) h₀ noMd) (hI2 : Sep [VList ((six x0 y0).map VStr), VList ((six x1 y1).map VStr)] I2) :
    HW prog w A (E2 L f cd) h₀ (("images", VOwn h₀ ([imV x0 y0, imV x1 y1] ++ [I2])) :: [("pairs", VOwn h₀ [VList ((six x0 y0).map VStr), VList ((six x1 y1).map VStr)]), ("words", wordsV)]) (exec (st2 7) (E2 L f cd))
      (("pairs", VOwn h₀ ([VList ((six x0 y0).map VStr), VList ((six x1 y1).map VStr)] ++ [VList ((six x0 y0).map VStr ++ (six x1 y1).map VStr)])) :: [("images", VOwn h₀ ([imV x0 y0, imV x1 y1] ++ [I2])), ("words", wordsV)]) := by
  refine ht_appendOwn fx (by walk_at "lk") ?_ ?_ ?_ ?_ (by simp)
  · refine ev_BinOp (V₁ := VList ((six x0 y0).map VStr)) (V₂ := VList ((six x1 y1).map VStr)) ?_ ?_ ?_
    · refine ev_sub (V₁ := VList [VList ((six x0 y0).map VStr), VList ((six x1 y1).map VStr)]) (V₂ := VInt 0) (Ev.imp (ev_name C.kind (V := VOwn h₀ [VList ((six x0 y0).map VStr), VList ((six x1 y1).map VStr)]) (by walk_at "lk") (by kernel_rfl!)) own_list) ev_int ?_
      intro a b s av ho hg ha hb
      exact op_itemL ha hb (by decide) (by decide) rfl (fun _ _ => rfl)
    · refine ev_sub (V₁ := VList [VList ((six x0 y0).map VStr), VList ((six x1 y1).map VStr)]) (V₂ := VInt 1) (Ev.imp (ev_name C.kind (V := VOwn h₀ [VList ((six x0 y0).map VStr), VList ((six x1 y1).map VStr)]) (by walk_at "lk") (by kernel_rfl!)) own_list) ev_int ?_
      intro a b s av ho hg ha hb
      exact op_itemL ha hb (by decide) (by decide) rfl (fun _ _ => rfl)
    · intro a b s av ho hg ha hb
      exact op_addL (by rw [six_len, six_len, sizeLine_eq]; decide) ho ha hb
  · refine List.forall_mem_cons.mpr ⟨⟨by (dsimp only; walk_at "lk"), ?_, by kernel_rfl!⟩, List.forall_mem_cons.mpr ⟨⟨by (dsimp only; walk_at "lk"), ?_, by kernel_rfl!⟩, List.forall_mem_nil _⟩⟩
    · refine sep_own (ne_len (by simp)) ?_
      refine List.forall_mem_cons.mpr ⟨?_, List.forall_mem_cons.mpr ⟨?_, List.forall_mem_cons.mpr ⟨hI2, List.forall_mem_nil _⟩⟩⟩
      · exact sep_strs (xs := [stB x0, stB y0]) (ne_ref_str (Vs := []))
      · exact sep_strs (xs := [stB x1, stB y1]) (ne_ref_str (Vs := []))
    · exact sep_words (by simp)
  · rw [← List.map_append]
    exact sep_strs (ne_len (by rw [List.length_map]; show 2 ≠ 12; decide))
  · refine List.forall_mem_cons.mpr ⟨?_, List.forall_mem_cons.mpr ⟨?_, List.forall_mem_nil _⟩⟩
    · exact sep_strs (ne_len (by rw [six_len]; simp))
    · exact sep_strs (ne_len (by rw [six_len]; simp))
end
end Mine

end
section
namespace Mine
local macro_rules | `(tactic| walk_at "lk") => `(tactic| (repeat (first | with_reducible exact lk_head | refine lk_tail (by kernel_rfl!) ?_)))
local macro_rules | `(tactic| walk_at "sub") => `(tactic| ((repeat (refine List.forall_mem_cons.mpr ⟨by (dsimp only; walk_at "lk"), ?_⟩)); exact List.forall_mem_nil _))

theorem pickL_rev {α : Type} (xs : List α) : pickL xs none none (some (-1)) = xs.reverse := by
  unfold pickL
  rw [krv_bounds, krv_sliceRange, krv_range, List.filterMap_reverse]
  have := krv_all xs.toArray
  simp only [List.size_toArray, List.getElem?_toArray] at this
  rw [this]
theorem pickL_plain {α : Type} (l : List α) (lo hi : Option Int) : pickL l lo hi none = (l.drop (lo.elim 0 (clipAt l.length))).take (hi.elim l.length (clipAt l.length) - lo.elim 0 (clipAt l.length)) := by
  unfold pickL
  rw [sliceBounds_plain]
  simp only [sliceRange_one]
  have := pick_run l.toArray (lo.elim 0 (clipAt l.length)) (hi.elim l.length (clipAt l.length) - lo.elim 0 (clipAt l.length))
  simpa using this
theorem pickL_row {α : Type} (l : List α) {a n : Nat} (h : a + n ≤ l.length) : pickL l (some (a : Int)) (some ((a : Int) + (n : Int))) none = (l.drop a).take n := by
  rw [pickL_plain]
  have e : (a : Int) + (n : Int) = ((a + n : Nat) : Int) := by omega
  rw [e]
  simp only [Option.elim, clipAt_nat]
  rw [Nat.min_eq_left h, Nat.min_eq_left (show a ≤ l.length by omega), Nat.add_sub_cancel_left]

-- the middle of a row
def leB (a b : Str) : Bool := decide (a.cps.toList ≤ b.cps.toList)
def srt (xs : List Str) : List Str := xs.mergeSort leB
theorem srt_perm (xs : List Str) : (srt xs).Perm xs := List.mergeSort_perm xs leB
theorem srt_sorted (xs : List Str) : (srt xs).Pairwise leS := by
  have := List.pairwise_mergeSort (le := leB) (fun a b c h1 h2 => by
    unfold leB at *
    rw [decide_eq_true_eq] at *
    exact List.le_trans h1 h2) (fun a b => by
    unfold leB
    rw [Bool.or_eq_true, decide_eq_true_eq, decide_eq_true_eq]
    exact List.le_total _ _) xs
  exact this.imp fun {a b} h => (decide_eq_true_eq.mp h : a.cps.toList ≤ b.cps.toList)
theorem srt_len (xs : List Str) : (srt xs).length = xs.length := (srt_perm xs).length_eq
def goodRow (row : List Str) : Bool := decide ([(srt row.reverse).getD ((row.length - 1) / 2) "", (srt row.reverse).getD (row.length / 2) ""] = [row.getD ((row.length - 1) / 2) "", row.getD (row.length / 2) ""])
theorem getD_get' {α : Type} {l : List α} {i : Nat} {d : α} (h : i < l.length) : l[i]? = some (l.getD i d) := by simp [List.getD, h]

theorem get_map_getD {row : List Str} {j : Nat} (h : j < row.length) : (row.map VStr)[((j : Nat) : Int).toNat]? = some (VStr (row.getD j "")) := by
  have e := getD_get' (l := row) (i := j) (d := ("" : Str)) h
  rw [List.getElem?_map, Int.toNat_natCast, e]; rfl
section
variable {prog : Program} {w : World} {A : Around} {L f : Addr} {cd : Value} {h₀ : Heap} {defs : List DefItem} {names : List Str} {ρ : Locs} {PV IV : VP}

theorem ev_neg {prog : Program} {w : World} {A : Around} {env : Env} {G : HP} {e : Expr} {a : Int} {pos : Pos} (h : Ev prog w A env G e (VInt a)) : Ev prog w A env G (.UnaryOp .USub e pos) (VInt (-a)) :=
  fun s av ho hg E Q hq => UnaryOp_ (h s av ho hg E _ fun v s₁ hv k₁ => by
    obtain ⟨t, rfl⟩ := hv
    exact P.neg_int (hq _ _ ⟨_, rfl⟩ (k₁.trans (Kps.tok _))))

abbrev rk (k : Nat) (PV IV : VP) : Locs := [("k", VInt k), ("pairs", PV), ("images", IV), ("words", wordsV)]
abbrev rin (k : Nat) (PV IV : VP) (TS : List Str) (sz : Nat) (b : Bool) : Locs := ("kept", VBool b) :: ("size", VInt sz) :: ("texts", VList (TS.map VStr)) :: rk k PV IV
def bd8 : List Stmt := match st2 8 with | .For _ _ b _ _ => b | _ => []
def in8 : List Stmt := match bd8.getD 3 (.Pass ⟨0, 0, 0, 0⟩) with | .For _ _ [.For _ _ b _ _] _ _ => b | _ => []

set_option maxRecDepth 20000 in
set_option maxHeartbeats 1000000 in
/-- row[::-1] -/
theorem e_rev {k sz i : Nat} {b : Bool} {TS row : List Str} {np pos p1 p2 p3 : Pos} {kk : Nat} (C : Cx A (E2 L f cd) h₀ defs names) (hrow : row.length ≤ 15) :
    Ev prog w A (E2 L f cd) (frP (E2 L f cd) h₀ (("row", VList (row.map VStr)) :: ("start", VInt i) :: rin k PV IV TS sz b)) (.Subscript (.Name "row" np) (.Slice none none (some (.UnaryOp .USub (.Constant (.int 1) kk p1) p2)) p3) pos) (VList (row.reverse.map VStr)) := by
  rw [← pickL_rev row, ← pickL_map]
  refine ev_slice (kl := none) (ku := none) (ks := some (-1)) (V₁ := VList (row.map VStr)) (ev_name C.kind (by walk_at "lk") (by kernel_rfl!)) ep_none ep_none (ep_some (ev_neg ev_int)) ?_
  intro a vl vu vs sl s av ho hg ha hvl hvu hvs hsl
  exact op_sliceL ho ha hvl hvu hvs hsl (by decide) (by rw [List.length_map, sizeLine_eq]; omega)

set_option maxRecDepth 20000 in
set_option maxHeartbeats 2000000 in
theorem t8_row {k sz i : Nat} {b : Bool} {TS : List Str} (C : Cx A (E2 L f cd) h₀ defs names) (hroom : A.depth < recursionLimit) (fx : Fx (E2 L f cd) h₀ noMd) (n1 : ("sorted" : Str) ∉ names) (n2 : ("len" : Str) ∉ names) (d1 : dLow ∈ defs) (d2 : dHigh ∈ defs) (hu : A.units + 64 < cLine)
    (hT : TS.length = 15) (h1 : 1 ≤ sz) (hi : i + sz ≤ 15) (hok : ∀ x ∈ TS, PyData.strOk x = true) :
    HT prog w A (E2 L f cd) h₀ noMd (("start", VInt i) :: rin k PV IV TS sz b) noX (execs in8 (E2 L f cd)) (rin k PV IV TS sz (b && goodRow ((TS.drop i).take sz))) noX := by
  generalize hrow : (TS.drop i).take sz = row
  have hlen : row.length = sz := by rw [← hrow, List.length_take, List.length_drop]; omega
  have hrok : ∀ x ∈ row, PyData.strOk x = true := fun x hx => hok x (by rw [← hrow] at hx; exact List.mem_of_mem_drop (List.mem_of_mem_take hx))
  have hsok : ∀ j, j < sz → PyData.strOk ((srt row.reverse).getD j "") = true := fun j hj => by
    have hl : j < (srt row.reverse).length := by rw [srt_len, List.length_reverse]; omega
    rw [List.getD, List.getElem?_eq_getElem hl]
    exact hrok _ (List.mem_reverse.mp ((srt_perm row.reverse).mem_iff.mp (List.getElem_mem hl)))
  have hgok : ∀ j, j < sz → PyData.strOk (row.getD j "") = true := fun j hj => by
    have hl : j < row.length := by omega
    rw [List.getD, List.getElem?_eq_getElem hl]
    exact hrok _ (List.getElem_mem hl)
  refine ht_cons (ρ₁ := ("row", VList (row.map VStr)) :: ("start", VInt i) :: rin k PV IV TS sz b) (X₁ := noX) (ht_assign fx onNo ?_ (.inl (by kernel_rfl!))) ?_
  · rw [← hrow, ← pickL_row TS (by omega), ← pickL_map]
    refine ev_slice (kl := some (i : Int)) (ku := some ((i : Int) + (sz : Int))) (ks := none) (V₁ := VList (TS.map VStr)) (ev_name C.kind (by walk_at "lk") (by kernel_rfl!)) (ep_some (ev_name C.kind (by walk_at "lk") (by kernel_rfl!))) (ep_some ?_) ep_none ?_
    · refine ev_BinOp (V₁ := VInt i) (V₂ := VInt sz) (ev_name C.kind (by walk_at "lk") (by kernel_rfl!)) (ev_name C.kind (by walk_at "lk") (by kernel_rfl!)) ?_
      intro a b s av ho hg ha hb
      exact op_addI ha hb
    · intro a vl vu vs sl s av ho hg ha hvl hvu hvs hsl
      exact op_sliceL ho ha hvl hvu hvs hsl (by decide) (by rw [List.length_map, sizeLine_eq]; omega)
  · refine ht_cons (ρ₁ := rin k PV IV TS sz (b && goodRow row)) (X₁ := noX) (ht_if (c := !goodRow row) onNo ?_ ?_ ?_) ht_nil
    · refine tst_Compare (V₁ := VList ([(srt row.reverse).getD ((row.length - 1) / 2) "", (srt row.reverse).getD (row.length / 2) ""].map VStr)) (V₂ := VList ([row.getD ((row.length - 1) / 2) "", row.getD (row.length / 2) ""].map VStr)) ?_ ?_ ?_
      · refine ev_list (ae_cons ?_ (ae_cons ?_ ae_nil)) (by rw [sizeLine_eq]; simp)
        · refine ev_callD (d := dLow) (Vs := [VList (row.reverse.map VStr)]) C d1 rfl (by kernel_rfl!) (ae_cons (e_rev C (by omega)) ae_nil) ?_
          exact low_ok hroom C.handled n1 n2 (by rw [List.length_reverse]; omega) (by rw [List.length_reverse]; omega) (fun ys' => sorted_unique (srt_perm _) (srt_sorted _)) (srt_len _) (by rw [List.length_reverse]; exact getD_get' (by rw [srt_len, List.length_reverse]; omega))
        · refine ev_callD (d := dHigh) (Vs := [VList (row.reverse.map VStr)]) C d2 rfl (by kernel_rfl!) (ae_cons (e_rev C (by omega)) ae_nil) ?_
          exact high_ok hroom C.handled n1 n2 (by rw [List.length_reverse]; omega) (by rw [List.length_reverse]; omega) (fun ys' => sorted_unique (srt_perm _) (srt_sorted _)) (srt_len _) (by rw [List.length_reverse]; exact getD_get' (by rw [srt_len, List.length_reverse]; omega))
      · refine ev_list (ae_cons ?_ (ae_cons ?_ ae_nil)) (by rw [sizeLine_eq]; simp)
        · refine ev_sub (V₁ := VList (row.map VStr)) (V₂ := VInt (((sz : Int) - 1).fdiv 2)) (ev_name C.kind (by walk_at "lk") (by kernel_rfl!)) ?_ ?_
          · refine ev_BinOp (V₁ := VInt ((sz : Int) - 1)) (V₂ := VInt 2) ?_ ev_int ?_
            · refine ev_BinOp (V₁ := VInt sz) (V₂ := VInt 1) (ev_name C.kind (by walk_at "lk") (by kernel_rfl!)) ev_int ?_
              intro a b s av ho hg ha hb
              exact op_subI ha hb
            · intro a b s av ho hg ha hb
              exact op_divI (by decide) (PyProof.noPylong_small (by decide)) ha hb
          · intro a b s av ho hg ha hb
            have e : (((sz : Int) - 1).fdiv 2) = (((row.length - 1) / 2 : Nat) : Int) := by rw [Int.fdiv_eq_ediv_of_nonneg _ (by decide)]; omega
            rw [e] at hb
            refine op_itemL ha hb (by omega) (by omega) ?_ (fun _ _ => rfl)
            exact get_map_getD (by omega)
        · refine ev_sub (V₁ := VList (row.map VStr)) (V₂ := VInt ((sz : Int).fdiv 2)) (ev_name C.kind (by walk_at "lk") (by kernel_rfl!)) ?_ ?_
          · refine ev_BinOp (V₁ := VInt sz) (V₂ := VInt 2) (ev_name C.kind (by walk_at "lk") (by kernel_rfl!)) ev_int ?_
            intro a b s av ho hg ha hb
            exact op_divI (by decide) (PyProof.noPylong_small (by decide)) ha hb
          · intro a b s av ho hg ha hb
            have e : ((sz : Int).fdiv 2) = ((row.length / 2 : Nat) : Int) := by rw [Int.fdiv_eq_ediv_of_nonneg _ (by decide)]; omega
            rw [e] at hb
            refine op_itemL ha hb (by omega) (by omega) ?_ (fun _ _ => rfl)
            exact get_map_getD (by omega)
      · intro u v s av ho hg ha hb
        refine (op_neSL hu ?_ ?_ ha hb).mono (vbool_eq rfl av)
        · exact List.forall_mem_cons.mpr ⟨hsok _ (by omega), List.forall_mem_cons.mpr ⟨hsok _ (by omega), List.forall_mem_nil _⟩⟩
        · exact List.forall_mem_cons.mpr ⟨hgok _ (by omega), List.forall_mem_cons.mpr ⟨hgok _ (by omega), List.forall_mem_nil _⟩⟩
    · intro hg
      have hg' : goodRow row = false := by simpa using hg
      rw [hg', Bool.and_false]
      refine ht_cons (ht_sub (ht_assign (V := VBool false) fx onNo ?_ (.inl (by kernel_rfl!))) ?_) ht_nil
      · exact ev_bool
      · walk_at "sub"
    · intro hg
      have hg' : goodRow row = true := by simpa using hg
      rw [hg', Bool.and_true]
      refine ht_sub ht_nil ?_
      walk_at "sub"
end
end Mine

end
section
namespace Mine
local macro_rules | `(tactic| walk_at "lk") => `(tactic| (repeat (first | with_reducible exact lk_head | refine lk_tail (by kernel_rfl!) ?_)))
local macro_rules | `(tactic| walk_at "sub") => `(tactic| ((repeat (refine List.forall_mem_cons.mpr ⟨by (dsimp only; walk_at "lk"), ?_⟩)); exact List.forall_mem_nil _))

/-- the words reworded -/
def TS (x y : List Bool) : List Str := wl.map fun w => stB (phi x y w)
theorem TS_len (x y : List Bool) : (TS x y).length = 15 := by unfold TS; rw [List.length_map]; rfl
theorem TS_map (x y : List Bool) : (TS x y).map VStr = wl.map fun w => VStr (stB (phi x y w)) := by unfold TS; rw [List.map_map]; rfl
theorem wl_short : ∀ w ∈ wl, w.length ≤ 3 := by decide
theorem stB_ok (l : List Bool) : PyData.strOk (stB l) = true := by
  unfold PyData.strOk
  rw [← Array.all_toList, stB_toList, List.all_map, List.all_eq_true]
  intro b _
  cases b <;> rfl
theorem TS_ok (x y : List Bool) : ∀ t ∈ TS x y, PyData.strOk t = true := by
  intro t ht
  obtain ⟨w, _, rfl⟩ := List.mem_map.mp ht
  exact stB_ok _

section
variable {prog : Program} {w : World} {A : Around} {L f : Addr} {cd : Value} {h₀ : Heap} {defs : List DefItem} {names : List Str} {ρ : Locs} {PV IV : VP}

set_option maxRecDepth 20000 in
set_option maxHeartbeats 1000000 in
theorem u0 {k n : Nat} {x y : List Bool} {prs : List VP} {ps : List Str} (C : Cx A (E2 L f cd) h₀ defs names) (hroom : A.depth < recursionLimit) (fx : Fx (E2 L f cd) h₀ noMd) (d1 : dRep ∈ defs) (hk : k < 3) (hpr : prs[k]? = some (VList (ps.map VStr))) (hn : ps.length = 2 * n) (hn' : n ≤ 100)
    (hrep : ∀ w ∈ wl, repAll (stB w) ps = stB (phi x y w)) (hok : ∀ w ∈ wl, ∀ i x' y' z r, i < n → repTo i (stB w) ps = (x', y' :: z :: r) → RepOk x' y' z) :
    HT prog w A (E2 L f cd) h₀ noMd (rk k (VOwn h₀ prs) IV) noX (exec (bd8.getD 0 (.Pass ⟨0, 0, 0, 0⟩)) (E2 L f cd)) (("texts", VList ((TS x y).map VStr)) :: rk k (VOwn h₀ prs) IV) noX := by
  rw [TS_map]
  refine ht_assign_compD (hX := onNo) (cl := [("pairs", L + 1 + 1 + 1 + 1 + 1 + 1), ("k", L + 1 + 1)]) (ρc := [("k", VInt k), ("pairs", VOwn h₀ prs)]) wl (fun w => VStr (stB w)) (fun w => VStr (stB (phi x y w))) fx ?_ ?_ ?_ ?_ ?_ ?_
  · refine ⟨?_, ?_, ?_, ?_, ?_, ?_⟩
    · kernel_rfl!
    · exact sub_cells (List.forall_mem_cons.mpr ⟨by kernel_rfl!, List.forall_mem_cons.mpr ⟨by kernel_rfl!, List.forall_mem_nil _⟩⟩)
    · refine List.forall_mem_cons.mpr ⟨⟨by (dsimp only; walk_at "lk"), by kernel_rfl!, by kernel_rfl!, by kernel_rfl!⟩, ?_⟩
      refine List.forall_mem_cons.mpr ⟨⟨by (dsimp only; walk_at "lk"), by kernel_rfl!, by kernel_rfl!, by kernel_rfl!⟩, ?_⟩
      exact List.forall_mem_nil _
    · decide +kernel
    · rfl
    · decide +kernel
  · exact it_list C.handled (ev_name C.kind (by walk_at "lk") (by kernel_rfl!))
  · kernel_rfl!
  · intro d C' hd
    rw [← hrep d hd]
    refine ev_callD (d := dRep) (Vs := VStr (stB d) :: (ps.map VStr ++ [])) (cx_comp C rfl) d1 rfl (by kernel_rfl!) ?_ ?_
    · refine ae_cons (ev_name rfl (by walk_at "lk") (by kernel_rfl!)) (ae_star ?_ ae_nil (by rw [List.length_map, sizeLine_eq]; omega))
      refine ev_sub (V₁ := VList prs) (V₂ := VInt k) (Ev.imp (ev_name rfl (V := VOwn h₀ prs) (by walk_at "lk") (by kernel_rfl!)) own_list) (ev_name rfl (by walk_at "lk") (by kernel_rfl!)) ?_
      intro a b s av ho hg ha hb
      exact op_itemL ha hb (by omega) (by omega) (by rw [Int.toNat_natCast]; exact hpr) (fun _ _ => rfl)
    · rw [List.append_nil]
      exact rep_ok (n := n) hroom C.handled hn (by omega) (hok d hd)
  · exact .inl (by kernel_rfl!)
  · rw [sizeLine_eq]; decide

set_option maxRecDepth 20000 in
set_option maxHeartbeats 1000000 in
theorem u1 {k : Nat} {x y : List Bool} {ims : List VP} (C : Cx A (E2 L f cd) h₀ defs names) (hroom : A.depth < recursionLimit) (hu : A.units + 64 < cLine) (d1 : dRew ∈ defs) (hk : k < 3) (him : ims[k]? = some (imV x y)) (hx : x.length ≤ 9) (hy : y.length ≤ 9) :
    HT prog w A (E2 L f cd) h₀ noMd (("texts", VList ((TS x y).map VStr)) :: rk k PV (VOwn h₀ ims)) noX (exec (bd8.getD 1 (.Pass ⟨0, 0, 0, 0⟩)) (E2 L f cd)) (("texts", VList ((TS x y).map VStr)) :: rk k PV (VOwn h₀ ims)) noX := by
  refine ht_if (c := false) onNo ?_ (fun h => nomatch h) fun _ => ht_nil
  refine tst_Compare (V₁ := VList ((TS x y).map VStr)) (V₂ := VList ((TS x y).map VStr)) (ev_name C.kind (by walk_at "lk") (by kernel_rfl!)) ?_ ?_
  · refine Ev.cast (V := VList (wl.map fun w => VStr (stB (phi x y w)))) ?_ (by rw [TS_map])
    refine ev_compD (hX := onNo) (cl := [("k", L + 1 + 1), ("images", L + 1 + 1 + 1 + 1 + 1)]) (ρc := [("k", VInt k), ("images", VOwn h₀ ims)]) wl (fun w => VStr (stB w)) (fun w => VStr (stB (phi x y w))) ?_ ?_ ?_ ?_ ?_
    · refine ⟨?_, ?_, ?_, ?_, ?_, ?_⟩
      · kernel_rfl!
      · exact sub_cells (List.forall_mem_cons.mpr ⟨by kernel_rfl!, List.forall_mem_cons.mpr ⟨by kernel_rfl!, List.forall_mem_nil _⟩⟩)
      · refine List.forall_mem_cons.mpr ⟨⟨by (dsimp only; walk_at "lk"), by kernel_rfl!, by kernel_rfl!, by kernel_rfl!⟩, ?_⟩
        refine List.forall_mem_cons.mpr ⟨⟨by (dsimp only; walk_at "lk"), by kernel_rfl!, by kernel_rfl!, by kernel_rfl!⟩, ?_⟩
        exact List.forall_mem_nil _
      · decide +kernel
      · rfl
      · decide +kernel
    · exact it_list C.handled (ev_name C.kind (by walk_at "lk") (by kernel_rfl!))
    · kernel_rfl!
    · intro d C' hd
      have hd3 := wl_short d hd
      have hp := phi_len (l := d) hx hy
      refine ev_callD (d := dRew) (Vs := [VStr (stB d), imV x y]) (cx_comp C rfl) d1 rfl (by kernel_rfl!) ?_ ?_
      · refine ae_cons (ev_name rfl (by walk_at "lk") (by kernel_rfl!)) (ae_cons ?_ ae_nil)
        refine ev_sub (V₁ := VList ims) (V₂ := VInt k) (Ev.imp (ev_name rfl (V := VOwn h₀ ims) (by walk_at "lk") (by kernel_rfl!)) own_list) (ev_name rfl (by walk_at "lk") (by kernel_rfl!)) ?_
        intro a b s av ho hg ha hb
        exact op_itemL ha hb (by omega) (by omega) (by rw [Int.toNat_natCast]; exact him) (fun _ _ => rfl)
      · refine rew_ok hroom C.handled (by omega) ?_
        have : 9 * d.length ≤ 27 := by omega
        omega
    · rw [sizeLine_eq]; decide
  · intro a b s av ho hg ha hb
    exact (op_neSL hu (TS_ok x y) (TS_ok x y) ha hb).mono (vbool_eq (by simp) av)

/-- what the two loops leave of kept -/
def keptAt (T : List Str) (sz : Nat) (b : Bool) (j : Nat) : Bool := b && (List.range j).all fun i => goodRow ((T.drop i).take sz)
theorem keptAt_succ (T : List Str) (sz : Nat) (b : Bool) (j : Nat) : keptAt T sz b (j + 1) = (keptAt T sz b j && goodRow ((T.drop j).take sz)) := by
  unfold keptAt
  rw [List.range_succ, List.all_append]
  simp [Bool.and_assoc]
theorem keptAt_zero (T : List Str) (sz : Nat) (b : Bool) : keptAt T sz b 0 = b := by simp [keptAt]

def fr3 (T : List Str) : Nat → Bool
  | 0 => true
  | 1 => keptAt T 2 true 14
  | _ => keptAt T 15 (keptAt T 2 true 14) 1

set_option maxRecDepth 20000 in
set_option maxHeartbeats 2000000 in
/-- the rows of one size -/
theorem u3_size {k sz : Nat} {b : Bool} {T : List Str} (C : Cx A (E2 L f cd) h₀ defs names) (hroom : A.depth < recursionLimit) (fx : Fx (E2 L f cd) h₀ noMd) (n0 : ("range" : Str) ∉ names) (n1 : ("sorted" : Str) ∉ names) (n2 : ("len" : Str) ∉ names) (d1 : dLow ∈ defs) (d2 : dHigh ∈ defs) (hu : A.units + 64 < cLine)
    (hT : T.length = 15) (h1 : 1 ≤ sz) (h2 : sz ≤ 15) (hok : ∀ x ∈ T, PyData.strOk x = true) :
    HT prog w A (E2 L f cd) h₀ noMd (("size", VInt sz) :: ("kept", VBool b) :: ("texts", VList (T.map VStr)) :: rk k PV IV) noX (execs (match bd8.getD 3 (.Pass ⟨0, 0, 0, 0⟩) with | .For _ _ b _ _ => b | _ => []) (E2 L f cd))
      (("kept", VBool (keptAt T sz b (16 - sz))) :: ("texts", VList (T.map VStr)) :: rk k PV IV) noX := by
  refine ht_cons (ρ₁ := rin k PV IV T sz (keptAt T sz b (16 - sz))) (X₁ := noX) ?_ (ht_sub ht_nil (by walk_at "sub"))
  refine ht_for_range (x := "start") (hX₀ := onNo) (16 - sz) (fun j => rin k PV IV T sz (keptAt T sz b j)) (fun _ => noX) fx (fun _ => onNo) C.handled ?_ ?_ (by omega) ?_ (fun _ h => h) (.inl (by kernel_rfl!)) ?_
  · exact ev_builtin C (by decide +kernel) n0 (by kernel_rfl!) (by decide +kernel) (by decide +kernel) (by kernel_rfl!)
  · refine Ev.cast (V := VInt (16 - (sz : Int))) ?_ (by rw [show (16 - (sz : Int)) = ((16 - sz : Nat) : Int) by omega])
    refine ev_BinOp (V₁ := VInt 16) (V₂ := VInt sz) ev_int (ev_name C.kind (by walk_at "lk") (by kernel_rfl!)) ?_
    intro a b s av ho hg ha hb
    exact op_subI ha hb
  · rw [keptAt_zero]; walk_at "sub"
  · intro i hi
    rw [keptAt_succ]
    exact t8_row C hroom fx n1 n2 d1 d2 hu hT h1 (by omega) hok

set_option maxRecDepth 20000 in
set_option maxHeartbeats 2000000 in
theorem u3 {k : Nat} {T : List Str} (C : Cx A (E2 L f cd) h₀ defs names) (hroom : A.depth < recursionLimit) (fx : Fx (E2 L f cd) h₀ noMd) (n0 : ("range" : Str) ∉ names) (n1 : ("sorted" : Str) ∉ names) (n2 : ("len" : Str) ∉ names) (d1 : dLow ∈ defs) (d2 : dHigh ∈ defs) (hu : A.units + 64 < cLine)
    (hT : T.length = 15) (hok : ∀ x ∈ T, PyData.strOk x = true) :
    HT prog w A (E2 L f cd) h₀ noMd (("kept", VBool true) :: ("texts", VList (T.map VStr)) :: rk k PV IV) noX (exec (bd8.getD 3 (.Pass ⟨0, 0, 0, 0⟩)) (E2 L f cd))
      (("kept", VBool (fr3 T 2)) :: ("texts", VList (T.map VStr)) :: rk k PV IV) noX := by
  refine ht_for (x := "size") (Vs := [VInt 2, VInt 15]) (hX₀ := onNo) (fun j => ("kept", VBool (fr3 T j)) :: ("texts", VList (T.map VStr)) :: rk k PV IV) (fun _ => noX) fx (fun _ => onNo) ?_ ?_ (fun _ h => h) (.inr ⟨by kernel_rfl!, _, rfl⟩) ?_
  · exact it_tup C.handled (ev_tuple (ae_cons ev_int (ae_cons ev_int ae_nil)))
  · exact List.forall_mem_cons.mpr ⟨lk_head, by walk_at "sub"⟩
  · intro i V hV
    match i, hV with
    | 0, hV =>
      obtain rfl : VInt 2 = V := by simpa using hV
      exact u3_size (sz := 2) C hroom fx n0 n1 n2 d1 d2 hu hT (by omega) (by omega) hok
    | 1, hV =>
      obtain rfl : VInt 15 = V := by simpa using hV
      exact u3_size (sz := 15) C hroom fx n0 n1 n2 d1 d2 hu hT (by omega) (by omega) hok
    | i + 2, hV => simp at hV
end
end Mine

end
section
namespace Mine
local macro_rules | `(tactic| walk_at "lk") => `(tactic| (repeat (first | with_reducible exact lk_head | refine lk_tail (by kernel_rfl!) ?_)))
local macro_rules | `(tactic| walk_at "sub") => `(tactic| ((repeat (refine List.forall_mem_cons.mpr ⟨by (dsimp only; walk_at "lk"), ?_⟩)); exact List.forall_mem_nil _))

theorem stB_app (x y : List Bool) : stB x ++ stB y = stB (x ++ y) := by
  apply str_ext
  rw [Str.cps_append]
  simp [stB]
section
variable {prog : Program} {w : World} {A : Around} {L f : Addr} {cd : Value} {h₀ : Heap} {defs : List DefItem} {names : List Str} {ρ : Locs} {PV IV : VP}

set_option maxRecDepth 20000 in
set_option maxHeartbeats 1000000 in
/-- images[k][j] -/
theorem e_im {k j : Nat} {x y : List Bool} {ims : List VP} {np kp p1 p2 p3 : Pos} {kk : Nat} {z : List Bool} (C : Cx A (E2 L f cd) h₀ defs names) (hr : ρ.lookup ("images" : Str) = some (VOwn h₀ ims)) (hρ : ρ.lookup ("k" : Str) = some (VInt k)) (hk : k < 3) (hj : j < 2) (him : ims[k]? = some (imV x y)) (hz : [VStr (stB x), VStr (stB y)][j]? = some (VStr (stB z))) :
    Ev prog w A (E2 L f cd) (frP (E2 L f cd) h₀ ρ) (.Subscript (.Subscript (.Name "images" np) (.Name "k" kp) p1) (.Constant (.int j) kk p2) p3) (VStr (stB z)) := by
  refine ev_sub (V₁ := imV x y) (V₂ := VInt j) ?_ ev_int ?_
  · refine ev_sub (V₁ := VList ims) (V₂ := VInt k) (Ev.imp (ev_name C.kind (V := VOwn h₀ ims) hr (by kernel_rfl!)) own_list) (ev_name C.kind hρ (by kernel_rfl!)) ?_
    intro a b s av ho hg ha hb
    exact op_itemL ha hb (by omega) (by omega) (by rw [Int.toNat_natCast]; exact him) (fun _ _ => rfl)
  · intro a b s av ho hg ha hb
    exact op_itemL ha hb (by omega) (by omega) (by rw [Int.toNat_natCast]; exact hz) (fun _ _ => rfl)

set_option maxRecDepth 20000 in
set_option maxHeartbeats 1000000 in
theorem u4 {k : Nat} {b : Bool} {x y : List Bool} {T : List Str} {ims : List VP} (C : Cx A (E2 L f cd) h₀ defs names) (fx : Fx (E2 L f cd) h₀ noMd) (hk : k < 3) (him : ims[k]? = some (imV x y)) (hx : x.length ≤ 9) (hy : y.length ≤ 9) :
    HT prog w A (E2 L f cd) h₀ noMd (("kept", VBool b) :: ("texts", VList (T.map VStr)) :: rk k PV (VOwn h₀ ims)) noX (exec (bd8.getD 4 (.Pass ⟨0, 0, 0, 0⟩)) (E2 L f cd))
      (("both", VStr (stB (x ++ y))) :: ("kept", VBool b) :: ("texts", VList (T.map VStr)) :: rk k PV (VOwn h₀ ims)) noX := by
  refine ht_assign fx onNo ?_ (.inl (by kernel_rfl!))
  rw [← stB_app]
  refine ev_BinOp (V₁ := VStr (stB x)) (V₂ := VStr (stB y)) ?_ ?_ ?_
  · exact e_im (j := 0) C (by walk_at "lk") (by walk_at "lk") hk (by decide) him rfl
  · exact e_im (j := 1) C (by walk_at "lk") (by walk_at "lk") hk (by decide) him rfl
  · intro a b s av ho hg ha hb
    exact op_addS (by rw [stB_len, stB_len, sizeLine_eq]; omega) ha hb

set_option maxRecDepth 20000 in
set_option maxHeartbeats 1000000 in
theorem u5 {k : Nat} {b : Bool} {x y : List Bool} {T : List Str} {ims : List VP} (C : Cx A (E2 L f cd) h₀ defs names) (hu : A.units + 64 < cLine) (hk : k < 3) (him : ims[k]? = some (imV x y))
    (hb : b = (decide ((stB (x ++ y)).cps.toList < (stB y).cps.toList) || ((stB (x ++ y)).cps.toList == (Str.ofString "").cps.toList))) :
    HT prog w A (E2 L f cd) h₀ noMd (("both", VStr (stB (x ++ y))) :: ("kept", VBool b) :: ("texts", VList (T.map VStr)) :: rk k PV (VOwn h₀ ims)) noX (exec (bd8.getD 5 (.Pass ⟨0, 0, 0, 0⟩)) (E2 L f cd))
      (("both", VStr (stB (x ++ y))) :: ("kept", VBool b) :: ("texts", VList (T.map VStr)) :: rk k PV (VOwn h₀ ims)) noX := by
  refine ht_if (c := false) onNo ?_ (fun h => nomatch h) fun _ => ht_nil
  refine tst_Compare (V₁ := VBool b) (V₂ := VBool (decide ((stB (x ++ y)).cps.toList < (stB y).cps.toList) || ((stB (x ++ y)).cps.toList == (Str.ofString "").cps.toList))) (ev_name C.kind (by walk_at "lk") (by kernel_rfl!)) ?_ ?_
  · refine ev_or ?_ ?_
    · refine ev_Compare (V₁ := VStr (stB (x ++ y))) (V₂ := VStr (stB y)) (ev_name C.kind (by walk_at "lk") (by kernel_rfl!)) ?_ ?_
      · exact e_im (j := 1) C (by walk_at "lk") (by walk_at "lk") hk (by decide) him rfl
      · intro u v s av ho hg h1 h2
        exact op_ltS h1 h2
    · refine ev_Compare (V₁ := VStr (stB (x ++ y))) (V₂ := VStr "") (ev_name C.kind (by walk_at "lk") (by kernel_rfl!)) ev_str ?_
      intro u v s av ho hg h1 h2
      exact op_eqS h1 h2
  · intro u v s av ho hg h1 h2
    exact (op_neB hu h1 h2).mono (vbool_eq (by rw [hb]; simp) av)

set_option maxRecDepth 20000 in
set_option maxHeartbeats 1000000 in
theorem t8_body {k n : Nat} {x y : List Bool} {prs ims : List VP} {ps : List Str} (C : Cx A (E2 L f cd) h₀ defs names) (hroom : A.depth < recursionLimit) (fx : Fx (E2 L f cd) h₀ noMd) (hu : A.units + 64 < cLine) (n0 : ("range" : Str) ∉ names) (n1 : ("sorted" : Str) ∉ names) (n2 : ("len" : Str) ∉ names)
    (d0 : dRep ∈ defs) (d1 : dLow ∈ defs) (d2 : dHigh ∈ defs) (d3 : dRew ∈ defs) (hk : k < 3) (hpr : prs[k]? = some (VList (ps.map VStr))) (hn : ps.length = 2 * n) (hn' : n ≤ 100)
    (hrep : ∀ w ∈ wl, repAll (stB w) ps = stB (phi x y w)) (hok : ∀ w ∈ wl, ∀ i x' y' z r, i < n → repTo i (stB w) ps = (x', y' :: z :: r) → RepOk x' y' z)
    (him : ims[k]? = some (imV x y)) (hx : x.length ≤ 9) (hy : y.length ≤ 9)
    (hb : fr3 (TS x y) 2 = (decide ((stB (x ++ y)).cps.toList < (stB y).cps.toList) || ((stB (x ++ y)).cps.toList == (Str.ofString "").cps.toList))) :
    HT prog w A (E2 L f cd) h₀ noMd (rk k (VOwn h₀ prs) (VOwn h₀ ims)) noX (execs bd8 (E2 L f cd)) [("pairs", VOwn h₀ prs), ("images", VOwn h₀ ims), ("words", wordsV)] noX := by
  have hbd : bd8 = [bd8.getD 0 (.Pass ⟨0, 0, 0, 0⟩), bd8.getD 1 (.Pass ⟨0, 0, 0, 0⟩), bd8.getD 2 (.Pass ⟨0, 0, 0, 0⟩), bd8.getD 3 (.Pass ⟨0, 0, 0, 0⟩), bd8.getD 4 (.Pass ⟨0, 0, 0, 0⟩), bd8.getD 5 (.Pass ⟨0, 0, 0, 0⟩)] := by kernel_rfl!
  rw [hbd]
  refine ht_cons (u0 C hroom fx d0 hk hpr hn hn' hrep hok) ?_
  refine ht_cons (u1 C hroom hu d3 hk him hx hy) ?_
  refine ht_cons (ρ₁ := ("kept", VBool true) :: ("texts", VList ((TS x y).map VStr)) :: rk k (VOwn h₀ prs) (VOwn h₀ ims)) (X₁ := noX) (ht_assign fx onNo ev_bool (.inl (by kernel_rfl!))) ?_
  refine ht_cons (u3 C hroom fx n0 n1 n2 d1 d2 hu (TS_len x y) (TS_ok x y)) ?_
  refine ht_cons (u4 C fx hk him hx hy) ?_
  refine ht_cons (ht_sub (u5 C hu hk him hb) ?_) ht_nil
  walk_at "sub"

set_option maxRecDepth 20000 in
set_option maxHeartbeats 1000000 in
theorem t8 {prs ims : List VP} (X Y : Nat → List Bool) (ps : Nat → List Str) (n : Nat → Nat) (C : Cx A (E2 L f cd) h₀ defs names) (hroom : A.depth < recursionLimit) (fx : Fx (E2 L f cd) h₀ noMd) (hu : A.units + 64 < cLine) (n0 : ("range" : Str) ∉ names) (n1 : ("sorted" : Str) ∉ names) (n2 : ("len" : Str) ∉ names)
    (d0 : dRep ∈ defs) (d1 : dLow ∈ defs) (d2 : dHigh ∈ defs) (d3 : dRew ∈ defs)
    (hpr : ∀ k, k < 3 → prs[k]? = some (VList ((ps k).map VStr))) (hn : ∀ k, k < 3 → (ps k).length = 2 * n k ∧ n k ≤ 100)
    (hrep : ∀ k, k < 3 → ∀ w ∈ wl, repAll (stB w) (ps k) = stB (phi (X k) (Y k) w)) (hok : ∀ k, k < 3 → ∀ w ∈ wl, ∀ i x' y' z r, i < n k → repTo i (stB w) (ps k) = (x', y' :: z :: r) → RepOk x' y' z)
    (him : ∀ k, k < 3 → ims[k]? = some (imV (X k) (Y k))) (hXY : ∀ k, k < 3 → (X k).length ≤ 9 ∧ (Y k).length ≤ 9)
    (hb : ∀ k, k < 3 → fr3 (TS (X k) (Y k)) 2 = (decide ((stB (X k ++ Y k)).cps.toList < (stB (Y k)).cps.toList) || ((stB (X k ++ Y k)).cps.toList == (Str.ofString "").cps.toList))) :
    HT prog w A (E2 L f cd) h₀ noMd [("pairs", VOwn h₀ prs), ("images", VOwn h₀ ims), ("words", wordsV)] noX (exec (st2 8) (E2 L f cd)) [("pairs", VOwn h₀ prs), ("images", VOwn h₀ ims), ("words", wordsV)] noX := by
  refine ht_for_range (x := "k") (hX₀ := onNo) 3 (fun _ => [("pairs", VOwn h₀ prs), ("images", VOwn h₀ ims), ("words", wordsV)]) (fun _ => noX) fx (fun _ => onNo) C.handled ?_ ev_int (by omega) ?_ (fun _ h => h) (.inr ⟨by kernel_rfl!, _, rfl⟩) ?_
  · exact ev_builtin C (by decide +kernel) n0 (by kernel_rfl!) (by decide +kernel) (by decide +kernel) (by kernel_rfl!)
  · walk_at "sub"
  · intro k hk
    exact t8_body C hroom fx hu n0 n1 n2 d0 d1 d2 d3 hk (hpr k hk) (hn k hk).1 (hn k hk).2 (hrep k hk) (hok k hk) (him k hk) (hXY k hk).1 (hXY k hk).2 (hb k hk)
end
end Mine

end
section
open PySem PySem.W PySem.Calls PyProof.Rows PySem.StrLaws
namespace Mine
-- the order of words
theorem app_lt (xs : List Nat) {ys zs : List Nat} : xs ++ ys < xs ++ zs ↔ ys < zs := by
  induction xs with
  | nil => rfl
  | cons x xs ih => rw [List.cons_append, List.cons_append, List.cons_lt_cons_iff]; simp [ih]
theorem app_le (xs : List Nat) {ys zs : List Nat} : xs ++ ys ≤ xs ++ zs ↔ ys ≤ zs := by
  show ¬ (xs ++ zs < xs ++ ys) ↔ ¬ (zs < ys)
  rw [app_lt]
theorem pre_le (xs ys : List Nat) : xs ≤ xs ++ ys := by
  have := (app_le xs (ys := []) (zs := ys)).mpr (List.nil_le ys)
  simpa using this
theorem lt_app : ∀ {s t : List Nat} (u : List Nat), s < t → t.length ≤ s.length → s ++ u < t
  | [], [], u, h, _ => absurd h (by simp)
  | [], _ :: _, u, h, hl => by simp at hl
  | c :: s, [], u, h, _ => absurd h (by simp)
  | c :: s, d :: t, u, h, hl => by
    rw [List.cons_append, List.cons_lt_cons_iff]
    rcases List.cons_lt_cons_iff.mp h with h | ⟨h1, h2⟩
    · exact .inl h
    · exact .inr ⟨h1, lt_app u h2 (by simpa using hl)⟩
theorem order_law {a b : List Nat} : (a ≤ b ∧ a ++ b ≤ b ∧ a ++ b ++ b ≤ b) ↔ (a ++ b < b ∨ a ++ b = []) := by
  constructor
  · rintro ⟨h1, h2, h3⟩
    by_cases h : a ++ b < b
    · exact .inl h
    · right
      have e : a ++ b = b := List.le_antisymm h2 h
      have ha : a = [] := by
        have := congrArg List.length e
        simp at this
        exact this
      subst ha
      have e2 : b ++ b = b := List.le_antisymm (by simpa using h3) (pre_le b b)
      have hb := congrArg List.length e2
      simp at hb
      simp [hb]
  · rintro (h | h)
    · refine ⟨?_, ?_, ?_⟩
      · exact List.le_of_lt (List.lt_of_le_of_lt (pre_le a b) h)
      · exact List.le_of_lt h
      · exact List.le_of_lt (lt_app b h (by simp))
    · have h' := List.append_eq_nil_iff.mp h
      obtain ⟨rfl, rfl⟩ := h'
      exact ⟨List.le_refl _, List.le_refl _, List.le_refl _⟩

-- what is kept
theorem phi_nil (x y : List Bool) : (phi x y []).map letter = [] := rfl
theorem phi_a (x y w : List Bool) : (phi x y (false :: w)).map letter = x.map letter ++ (phi x y w).map letter := by simp [phi, sel, List.flatMap_cons]
theorem phi_b (x y w : List Bool) : (phi x y (true :: w)).map letter = y.map letter ++ (phi x y w).map letter := by simp [phi, sel, List.flatMap_cons]
theorem leB_iff {s t : List Bool} : leB (stB s) (stB t) = true ↔ s.map letter ≤ t.map letter := by
  unfold leB
  rw [decide_eq_true_eq, stB_toList, stB_toList]
theorem srt_eq {xs ys : List Str} (hp : ys.Perm xs) (hs : ys.Pairwise leS) : srt xs = ys :=
  List.Perm.eq_of_pairwise (le := leS) (fun a b _ _ h h' => leS_antisymm h h') (srt_sorted xs) hs ((srt_perm xs).trans hp.symm)
theorem good_two (s t : Str) : goodRow [s, t] = leB s t := by
  cases h : leB s t with
  | true =>
    have h' : leS s t := (decide_eq_true_eq.mp h : s.cps.toList ≤ t.cps.toList)
    have e : srt [s, t].reverse = [s, t] := srt_eq (List.reverse_perm _).symm (by simp [h'])
    unfold goodRow
    rw [e]
    simp
  | false =>
    have h1 : ¬ leS s t := (decide_eq_false_iff_not.mp h : ¬ s.cps.toList ≤ t.cps.toList)
    have h2 : leS t s := (List.le_total _ _).resolve_left h1
    have e : srt [s, t].reverse = [t, s] := srt_eq (List.Perm.refl _) (by simp [h2])
    unfold goodRow
    rw [e]
    simp only [decide_eq_false_iff_not]
    intro hc
    have : t = s := by simpa using (List.cons.inj hc).1
    exact h1 (this ▸ List.le_refl _)
theorem good_all {T : List Str} (h : T.Pairwise leS) : goodRow T = true := by
  have e : srt T.reverse = T := srt_eq (List.reverse_perm _).symm h
  unfold goodRow
  rw [e]
  simp
theorem row_two {T : List Str} {i : Nat} (h : i + 1 < T.length) : (T.drop i).take 2 = [T.getD i "", T.getD (i + 1) ""] := by
  rw [List.drop_eq_getElem_cons (by omega), List.take_succ_cons, List.drop_eq_getElem_cons h, List.take_succ_cons, List.take_zero]
  simp [List.getD, h, show i < T.length by omega]
theorem kept14 (x y : List Bool) : keptAt (TS x y) 2 true 14 = (List.range 14).all fun i => leB ((TS x y).getD i "") ((TS x y).getD (i + 1) "") := by
  unfold keptAt
  rw [Bool.true_and, Bool.eq_iff_iff, List.all_eq_true, List.all_eq_true]
  refine forall_congr' fun i => forall_congr' fun hi => ?_
  have := List.mem_range.mp hi
  rw [row_two (by rw [TS_len]; omega), good_two]
section
variable {x y : List Bool}
theorem adj0 (h1 : x.map letter ≤ y.map letter) (h2 : x.map letter ++ y.map letter ≤ y.map letter) (h3 : x.map letter ++ y.map letter ++ y.map letter ≤ y.map letter) : leB (stB (phi x y [])) (stB (phi x y [false])) = true := by
  rw [leB_iff]
  simp only [phi_a, phi_b, phi_nil]
  exact List.nil_le _
theorem adj1 (h1 : x.map letter ≤ y.map letter) (h2 : x.map letter ++ y.map letter ≤ y.map letter) (h3 : x.map letter ++ y.map letter ++ y.map letter ≤ y.map letter) : leB (stB (phi x y [false])) (stB (phi x y [false, false])) = true := by
  rw [leB_iff]
  simp only [phi_a, phi_b, phi_nil]
  rw [app_le (x.map letter)]
  exact List.nil_le _
theorem adj2 (h1 : x.map letter ≤ y.map letter) (h2 : x.map letter ++ y.map letter ≤ y.map letter) (h3 : x.map letter ++ y.map letter ++ y.map letter ≤ y.map letter) : leB (stB (phi x y [false, false])) (stB (phi x y [false, false, false])) = true := by
  rw [leB_iff]
  simp only [phi_a, phi_b, phi_nil]
  rw [app_le (x.map letter), app_le (x.map letter)]
  exact List.nil_le _
theorem adj3 (h1 : x.map letter ≤ y.map letter) (h2 : x.map letter ++ y.map letter ≤ y.map letter) (h3 : x.map letter ++ y.map letter ++ y.map letter ≤ y.map letter) : leB (stB (phi x y [false, false, false])) (stB (phi x y [false, false, true])) = true := by
  rw [leB_iff]
  simp only [phi_a, phi_b, phi_nil]
  rw [app_le (x.map letter), app_le (x.map letter)]
  simpa using h1
theorem adj4 (h1 : x.map letter ≤ y.map letter) (h2 : x.map letter ++ y.map letter ≤ y.map letter) (h3 : x.map letter ++ y.map letter ++ y.map letter ≤ y.map letter) : leB (stB (phi x y [false, false, true])) (stB (phi x y [false, true])) = true := by
  rw [leB_iff]
  simp only [phi_a, phi_b, phi_nil]
  rw [app_le (x.map letter)]
  simpa using h2
theorem adj5 (h1 : x.map letter ≤ y.map letter) (h2 : x.map letter ++ y.map letter ≤ y.map letter) (h3 : x.map letter ++ y.map letter ++ y.map letter ≤ y.map letter) : leB (stB (phi x y [false, true])) (stB (phi x y [false, true, false])) = true := by
  rw [leB_iff]
  simp only [phi_a, phi_b, phi_nil]
  rw [app_le (x.map letter), app_le (y.map letter)]
  exact List.nil_le _
theorem adj6 (h1 : x.map letter ≤ y.map letter) (h2 : x.map letter ++ y.map letter ≤ y.map letter) (h3 : x.map letter ++ y.map letter ++ y.map letter ≤ y.map letter) : leB (stB (phi x y [false, true, false])) (stB (phi x y [false, true, true])) = true := by
  rw [leB_iff]
  simp only [phi_a, phi_b, phi_nil]
  rw [app_le (x.map letter), app_le (y.map letter)]
  simpa using h1
theorem adj7 (h1 : x.map letter ≤ y.map letter) (h2 : x.map letter ++ y.map letter ≤ y.map letter) (h3 : x.map letter ++ y.map letter ++ y.map letter ≤ y.map letter) : leB (stB (phi x y [false, true, true])) (stB (phi x y [true])) = true := by
  rw [leB_iff]
  simp only [phi_a, phi_b, phi_nil]
  simpa using h3
theorem adj8 (h1 : x.map letter ≤ y.map letter) (h2 : x.map letter ++ y.map letter ≤ y.map letter) (h3 : x.map letter ++ y.map letter ++ y.map letter ≤ y.map letter) : leB (stB (phi x y [true])) (stB (phi x y [true, false])) = true := by
  rw [leB_iff]
  simp only [phi_a, phi_b, phi_nil]
  rw [app_le (y.map letter)]
  exact List.nil_le _
theorem adj9 (h1 : x.map letter ≤ y.map letter) (h2 : x.map letter ++ y.map letter ≤ y.map letter) (h3 : x.map letter ++ y.map letter ++ y.map letter ≤ y.map letter) : leB (stB (phi x y [true, false])) (stB (phi x y [true, false, false])) = true := by
  rw [leB_iff]
  simp only [phi_a, phi_b, phi_nil]
  rw [app_le (y.map letter), app_le (x.map letter)]
  exact List.nil_le _
theorem adj10 (h1 : x.map letter ≤ y.map letter) (h2 : x.map letter ++ y.map letter ≤ y.map letter) (h3 : x.map letter ++ y.map letter ++ y.map letter ≤ y.map letter) : leB (stB (phi x y [true, false, false])) (stB (phi x y [true, false, true])) = true := by
  rw [leB_iff]
  simp only [phi_a, phi_b, phi_nil]
  rw [app_le (y.map letter), app_le (x.map letter)]
  simpa using h1
theorem adj11 (h1 : x.map letter ≤ y.map letter) (h2 : x.map letter ++ y.map letter ≤ y.map letter) (h3 : x.map letter ++ y.map letter ++ y.map letter ≤ y.map letter) : leB (stB (phi x y [true, false, true])) (stB (phi x y [true, true])) = true := by
  rw [leB_iff]
  simp only [phi_a, phi_b, phi_nil]
  rw [app_le (y.map letter)]
  simpa using h2
theorem adj12 (h1 : x.map letter ≤ y.map letter) (h2 : x.map letter ++ y.map letter ≤ y.map letter) (h3 : x.map letter ++ y.map letter ++ y.map letter ≤ y.map letter) : leB (stB (phi x y [true, true])) (stB (phi x y [true, true, false])) = true := by
  rw [leB_iff]
  simp only [phi_a, phi_b, phi_nil]
  rw [app_le (y.map letter), app_le (y.map letter)]
  exact List.nil_le _
theorem adj13 (h1 : x.map letter ≤ y.map letter) (h2 : x.map letter ++ y.map letter ≤ y.map letter) (h3 : x.map letter ++ y.map letter ++ y.map letter ≤ y.map letter) : leB (stB (phi x y [true, true, false])) (stB (phi x y [true, true, true])) = true := by
  rw [leB_iff]
  simp only [phi_a, phi_b, phi_nil]
  rw [app_le (y.map letter), app_le (y.map letter)]
  simpa using h1
end
theorem kept_eq (x y : List Bool) : fr3 (TS x y) 2 = (decide ((stB (x ++ y)).cps.toList < (stB y).cps.toList) || ((stB (x ++ y)).cps.toList == (Str.ofString "").cps.toList)) := by
  have hr : (decide ((stB (x ++ y)).cps.toList < (stB y).cps.toList) || ((stB (x ++ y)).cps.toList == (Str.ofString "").cps.toList)) = decide (x.map letter ≤ y.map letter ∧ x.map letter ++ y.map letter ≤ y.map letter ∧ x.map letter ++ y.map letter ++ y.map letter ≤ y.map letter) := by
    rw [Bool.eq_iff_iff, decide_eq_true_eq, order_law, Bool.or_eq_true, decide_eq_true_eq, beq_iff_eq, stB_toList, stB_toList, List.map_append, show (Str.ofString "").cps.toList = [] from by decide +kernel]
  rw [hr, Bool.eq_iff_iff, decide_eq_true_eq]
  show (keptAt (TS x y) 15 (keptAt (TS x y) 2 true 14) 1 = true) ↔ _
  unfold keptAt
  rw [Bool.and_eq_true, show ((true && (List.range 14).all fun i => goodRow (((TS x y).drop i).take 2)) = true) = (keptAt (TS x y) 2 true 14 = true) from rfl, kept14, List.all_eq_true]
  constructor
  · rintro ⟨h, _⟩
    have e3 := h 3 (by decide)
    have e4 := h 4 (by decide)
    have e7 := h 7 (by decide)
    have e3' : leB (stB (phi x y [false, false, false])) (stB (phi x y [false, false, true])) = true := e3
    have e4' : leB (stB (phi x y [false, false, true])) (stB (phi x y [false, true])) = true := e4
    have e7' : leB (stB (phi x y [false, true, true])) (stB (phi x y [true])) = true := e7
    rw [leB_iff] at e3' e4' e7'
    simp only [phi_a, phi_b, phi_nil] at e3' e4' e7'
    rw [app_le, app_le] at e3'
    rw [app_le] at e4'
    refine ⟨by simpa using e3', by simpa using e4', by simpa using e7'⟩
  · rintro ⟨h1, h2, h3⟩
    have hall : ∀ i, i ∈ List.range 14 → leB ((TS x y).getD i "") ((TS x y).getD (i + 1) "") = true := by
      intro i hi
      have hi' := List.mem_range.mp hi
      match i, hi' with
      | 0, _ => exact adj0 h1 h2 h3
      | 1, _ => exact adj1 h1 h2 h3
      | 2, _ => exact adj2 h1 h2 h3
      | 3, _ => exact adj3 h1 h2 h3
      | 4, _ => exact adj4 h1 h2 h3
      | 5, _ => exact adj5 h1 h2 h3
      | 6, _ => exact adj6 h1 h2 h3
      | 7, _ => exact adj7 h1 h2 h3
      | 8, _ => exact adj8 h1 h2 h3
      | 9, _ => exact adj9 h1 h2 h3
      | 10, _ => exact adj10 h1 h2 h3
      | 11, _ => exact adj11 h1 h2 h3
      | 12, _ => exact adj12 h1 h2 h3
      | 13, _ => exact adj13 h1 h2 h3
    refine ⟨hall, ?_⟩
    rw [List.all_eq_true]
    intro i hi
    have : i = 0 := by have := List.mem_range.mp hi; omega
    subst this
    rw [List.drop_zero, List.take_of_length_le (by rw [TS_len]; exact Nat.le_refl _)]
    refine good_all ?_
    have step : ∀ i, i ∈ List.range 14 → leS ((TS x y).getD i "") ((TS x y).getD (i + 1) "") := fun i hi => (decide_eq_true_eq.mp (hall i hi) : ((TS x y).getD i "").cps.toList ≤ ((TS x y).getD (i + 1) "").cps.toList)
    have hri : risingS ((TS x y).getD 0 "") ((TS x y).drop 1) = true := by
      have g : ∀ {p q : Str} {r : List Str}, leS p q → risingS q r = true → risingS p (q :: r) = true := by
        intro p q r hpq hr
        rw [risingS, hr, Bool.and_true, Bool.not_eq_true', ltCps_eq, decide_eq_false_iff_not]
        exact hpq
      exact g (step 0 (by decide)) (g (step 1 (by decide)) (g (step 2 (by decide)) (g (step 3 (by decide)) (g (step 4 (by decide)) (g (step 5 (by decide)) (g (step 6 (by decide)) (g (step 7 (by decide)) (g (step 8 (by decide)) (g (step 9 (by decide)) (g (step 10 (by decide)) (g (step 11 (by decide)) (g (step 12 (by decide)) (g (step 13 (by decide)) (rfl))))))))))))))
    have := rising_pairwise _ _ hri
    exact this
end Mine

end
section
namespace Mine
theorem rep1_one {x y z : Str} {c : Nat} (hy : y.cps.toList = [c]) (hc : c < 256) : (rep1 x y z).cps.toList = x.cps.toList.flatMap fun d => if d = c then z.cps.toList else [d] := by
  have hl : y.length = 1 := by
    have := congrArg List.length hy
    simpa [Str.length] using this
  unfold rep1
  rw [rep1_toList x y z (by omega) (by rw [← Array.all_toList, hy]; simp [hc]), hy, replW_one]
theorem six_rep (x y w : List Bool) : repAll (stB w) (six x y) = stB (phi x y w) := by
  show rep1 (rep1 (rep1 (stB w) "a" "0") "b" (stB y)) "0" (stB x) = _
  apply str_ext
  have ha : (Str.ofString "a").cps.toList = [97] := by decide +kernel
  have hb : (Str.ofString "b").cps.toList = [98] := by decide +kernel
  have h0 : (Str.ofString "0").cps.toList = [48] := by decide +kernel
  rw [rep1_one h0 (by decide), rep1_one hb (by decide), rep1_one ha (by decide), h0]
  rw [stB_toList, stB_toList, stB_toList, stB_toList]
  induction w with
  | nil => rfl
  | cons c t ih =>
    have hno : ∀ l : List Bool, (l.map letter).flatMap (fun d => if d = 48 then x.map letter else [d]) = l.map letter := by
      intro l
      induction l with
      | nil => rfl
      | cons d r ih => rw [List.map_cons, List.flatMap_cons, ih]; cases d <;> rfl
    cases c with
    | false =>
      rw [phi_a, ← ih]
      simp [letter, List.flatMap_cons]
    | true =>
      rw [phi_b, ← ih]
      rw [List.map_cons, List.flatMap_cons, List.flatMap_append, List.flatMap_append]
      rw [show (if letter true = 97 then [48] else [letter true]) = [98] by decide]
      congr 1
      rw [List.flatMap_cons, List.flatMap_nil, List.append_nil]
      simp only [if_true]
      exact hno y
theorem repAll_app : ∀ (x : Str) (ps qs : List Str), ps.length % 2 = 0 → repAll x (ps ++ qs) = repAll (repAll x ps) qs
  | x, [], qs, _ => rfl
  | x, [_], qs, h => by simp at h
  | x, y :: z :: r, qs, h => by
    show repAll (rep1 x y z) (r ++ qs) = _
    rw [repAll_app (rep1 x y z) r qs (by simp at h; omega)]; rfl
theorem phi_phi (x1 y1 x0 y0 w : List Bool) : phi x1 y1 (phi x0 y0 w) = phi (phi x1 y1 x0) (phi x1 y1 y0) w := by
  induction w with
  | nil => rfl
  | cons c t ih =>
    have e : ∀ (x y : List Bool) (c : Bool) (t : List Bool), phi x y (c :: t) = sel x y c ++ phi x y t := fun x y c t => by simp [phi, List.flatMap_cons]
    have e2 : ∀ (x y s t : List Bool), phi x y (s ++ t) = phi x y s ++ phi x y t := fun x y s t => by simp [phi, List.flatMap_append]
    rw [e, e2, ih, e]
    cases c <;> rfl
theorem twelve_rep (x0 y0 x1 y1 w : List Bool) : repAll (stB w) (six x0 y0 ++ six x1 y1) = stB (phi (phi x1 y1 x0) (phi x1 y1 y0) w) := by
  rw [repAll_app _ (six x0 y0) _ (by show 6 % 2 = 0; decide), six_rep, six_rep, phi_phi]

-- sizes
theorem partsFrom_len (x : Str) (w : Nat) : ∀ (cuts : List Nat) (a : Nat), (StrLaws.partsFrom x w a cuts).length = cuts.length + 1
  | [], _ => rfl
  | c :: r, a => by simp [StrLaws.partsFrom, partsFrom_len x w r]
theorem repOk_small {x y z : Str} (hx : x.length ≤ 10000) (hy : 1 ≤ y.length) (hz : z.length ≤ 100) : RepOk x y z := by
  refine ⟨by simpa using Nat.ne_of_gt hy, by rw [sizeLine_eq]; omega, ?_, ?_⟩
  · rw [StrLaws.partsBetween_eq, partsFrom_len, sizeLine_eq]
    have := StrLaws.occ_length_le x y 0 x.length (x.length + 1)
    omega
  · unfold JoinOk
    rw [StrLaws.joinTotal]
    have hw := split_weight x y hy
    unfold Builtin.Str.tooLong
    rw [sizeLine_eq]
    have h1 : (Txt.split x y).length * z.length ≤ 10001 * 100 := Nat.mul_le_mul (by omega) hz
    simp only [Bool.not_eq_true', decide_eq_false_iff_not]
    omega
/-- each pair: one letter, and at most three for it -/
def OkPairs : List Str → Prop
  | y :: z :: r => (∃ c, c < 256 ∧ y.cps.toList = [c]) ∧ z.length ≤ 3 ∧ OkPairs r
  | _ => True
theorem flat_len {c : Nat} {z : List Nat} (hz : z.length ≤ 3) : ∀ l : List Nat, (l.flatMap fun d => if d = c then z else [d]).length ≤ 3 * l.length
  | [] => by simp
  | d :: r => by
    have ih := flat_len (c := c) hz r
    rw [List.flatMap_cons, List.length_append, List.length_cons, Nat.mul_succ]
    have : (if d = c then z else [d]).length ≤ 3 := by split <;> simp [hz]
    omega
theorem ok_len : ∀ (i : Nat) (x : Str) (ps : List Str) (x' y z : Str) (r : List Str), OkPairs ps → repTo i x ps = (x', y :: z :: r) → x'.length ≤ 3 ^ i * x.length ∧ (∃ c, c < 256 ∧ y.cps.toList = [c]) ∧ z.length ≤ 3
  | 0, x, ps, x', y, z, r, ho, h => by cases h; exact ⟨by simp, ho.1, ho.2.1⟩
  | i + 1, x, [], x', y, z, r, ho, h => by cases h
  | i + 1, x, [_], x', y, z, r, ho, h => by cases h
  | i + 1, x, a :: b :: qs, x', y, z, r, ho, h => by
    obtain ⟨⟨c, hc, ha⟩, hb, hq⟩ := ho
    obtain ⟨h1, h2, h3⟩ := ok_len i (rep1 x a b) qs x' y z r hq h
    refine ⟨?_, h2, h3⟩
    have hl : (rep1 x a b).length ≤ 3 * x.length := by
      have := flat_len (c := c) (z := b.cps.toList) (by simpa [Str.length] using hb) x.cps.toList
      rw [← rep1_one ha hc] at this
      simpa [Str.length] using this
    have := Nat.mul_le_mul_left (3 ^ i) hl
    rw [Nat.pow_succ]
    have e : 3 ^ i * (3 * x.length) = 3 ^ i * 3 * x.length := by rw [Nat.mul_assoc]
    omega
theorem ok_all {ps : List Str} {n : Nat} (ho : OkPairs ps) (hn : n ≤ 6) {w : List Bool} (hw : w.length ≤ 3) : ∀ i x' y' z r, i < n → repTo i (stB w) ps = (x', y' :: z :: r) → RepOk x' y' z := by
  intro i x' y' z r hi h
  obtain ⟨h1, ⟨c, hc, h2⟩, h3⟩ := ok_len i (stB w) ps x' y' z r ho h
  have hp : 3 ^ i ≤ 3 ^ 5 := Nat.pow_le_pow_right (by decide) (by omega)
  have hm : 3 ^ i * (stB w).length ≤ 3 ^ 5 * 3 := Nat.mul_le_mul hp (by rw [stB_len]; exact hw)
  refine repOk_small (by omega) ?_ (by omega)
  have := congrArg List.length h2
  simp [Str.length] at this ⊢
  omega
theorem ok_six {x y : List Bool} (hx : x.length ≤ 3) (hy : y.length ≤ 3) (r : List Str) (hr : OkPairs r) : OkPairs (six x y ++ r) :=
  ⟨⟨97, by decide, by decide +kernel⟩, by decide +kernel, ⟨98, by decide, by decide +kernel⟩, by rw [stB_len]; exact hy, ⟨48, by decide, by decide +kernel⟩, by rw [stB_len]; exact hx, hr⟩
end Mine

end
section
namespace Mine
local macro_rules | `(tactic| walk_at "lk") => `(tactic| (repeat (first | with_reducible exact lk_head | refine lk_tail (by kernel_rfl!) ?_)))
local macro_rules | `(tactic| walk_at "sub") => `(tactic| ((repeat (refine List.forall_mem_cons.mpr ⟨by (dsimp only; walk_at "lk"), ?_⟩)); exact List.forall_mem_nil _))
section
variable {prog : Program} {w : World} {A : Around} {L f : Addr} {cd : Value} {h₀ : Heap} {defs : List DefItem} {names : List Str} {ρ : Locs}

def Xs (x0 x1 x2 : List Bool) : Nat → List Bool | 0 => x0 | 1 => x1 | _ => x2
def Ps (a b c : List Str) : Nat → List Str | 0 => a | 1 => b | _ => c
def Ns (a b c : Nat) : Nat → Nat | 0 => a | 1 => b | _ => c
theorem three {P : Nat → Prop} (h0 : P 0) (h1 : P 1) (h2 : P 2) : ∀ k, k < 3 → P k
  | 0, _ => h0
  | 1, _ => h1
  | 2, _ => h2

set_option maxRecDepth 20000 in
set_option maxHeartbeats 1000000 in
theorem t8_all {x0 y0 x1 y1 : List Bool} (C : Cx A (E2 L f cd) h₀ defs names) (hroom : A.depth < recursionLimit) (fx : Fx (E2 L f cd) h₀ noMd) (hu : A.units + 64 < cLine) (n0 : ("range" : Str) ∉ names) (n1 : ("sorted" : Str) ∉ names) (n2 : ("len" : Str) ∉ names)
    (d0 : dRep ∈ defs) (d1 : dLow ∈ defs) (d2 : dHigh ∈ defs) (d3 : dRew ∈ defs) (l0 : x0.length ≤ 3) (l1 : y0.length ≤ 3) (l2 : x1.length ≤ 3) (l3 : y1.length ≤ 3) :
    HT prog w A (E2 L f cd) h₀ noMd (("pairs", VOwn h₀ ([VList ((six x0 y0).map VStr), VList ((six x1 y1).map VStr)] ++ [VList ((six x0 y0).map VStr ++ (six x1 y1).map VStr)])) :: [("images", VOwn h₀ ([imV x0 y0, imV x1 y1] ++ [imV (phi x1 y1 x0) (phi x1 y1 y0)])), ("words", wordsV)]) noX (exec (st2 8) (E2 L f cd))
      [("pairs", VOwn h₀ ([VList ((six x0 y0).map VStr), VList ((six x1 y1).map VStr)] ++ [VList ((six x0 y0).map VStr ++ (six x1 y1).map VStr)])), ("images", VOwn h₀ ([imV x0 y0, imV x1 y1] ++ [imV (phi x1 y1 x0) (phi x1 y1 y0)])), ("words", wordsV)] noX := by
  have p2 := phi_len (l := x0) l2 l3
  have p3 := phi_len (l := y0) l2 l3
  have ok0 := ok_six l0 l1 [] trivial
  have ok1 := ok_six l2 l3 [] trivial
  have ok2 := ok_six l0 l1 (six x1 y1) (by have := ok1; rw [List.append_nil] at this; exact this)
  rw [List.append_nil] at ok0 ok1
  refine t8 (Xs x0 x1 (phi x1 y1 x0)) (Xs y0 y1 (phi x1 y1 y0)) (Ps (six x0 y0) (six x1 y1) (six x0 y0 ++ six x1 y1)) (Ns 3 3 6) C hroom fx hu n0 n1 n2 d0 d1 d2 d3 ?_ ?_ ?_ ?_ ?_ ?_ ?_
  · refine three rfl rfl ?_
    show some (VList _) = some (VList _)
    rw [← List.map_append]; rfl
  · exact three ⟨rfl, by decide⟩ ⟨rfl, by decide⟩ ⟨rfl, by decide⟩
  · exact three (fun w _ => six_rep x0 y0 w) (fun w _ => six_rep x1 y1 w) (fun w _ => twelve_rep x0 y0 x1 y1 w)
  · exact three (fun w hw => ok_all ok0 (by decide) (wl_short w hw)) (fun w hw => ok_all ok1 (by decide) (wl_short w hw)) (fun w hw => ok_all ok2 (by decide) (wl_short w hw))
  · exact three rfl rfl rfl
  · refine three ⟨?_, ?_⟩ ⟨?_, ?_⟩ ⟨?_, ?_⟩
    · show x0.length ≤ 9; omega
    · show y0.length ≤ 9; omega
    · show x1.length ≤ 9; omega
    · show y1.length ≤ 9; omega
    · show (phi x1 y1 x0).length ≤ 9; omega
    · show (phi x1 y1 y0).length ≤ 9; omega
  · exact fun k _ => kept_eq _ _

set_option maxRecDepth 20000 in
set_option maxHeartbeats 1000000 in
theorem law2_run {ns : List Int} (C : Cx A (E2 L f cd) h₀ defs names) (hroom : A.depth < recursionLimit) (hu : A.units + 64 < cLine) (hL : h₀.objs.size ≤ L) (n0 : ("range" : Str) ∉ names) (n1 : ("sorted" : Str) ∉ names) (n2 : ("len" : Str) ∉ names) (n3 : ("sum" : Str) ∉ names)
    (d0 : dRep ∈ defs) (d1 : dLow ∈ defs) (d2 : dHigh ∈ defs) (d3 : dRew ∈ defs) (hns : ns.length ≤ 63) :
    HWR prog w A (E2 L f cd) h₀ [("script", VList (ns.map VInt))] (execs dLaw2.body (E2 L f cd)) (VBool true) := by
  rw [body2]
  have fx : Fx (E2 L f cd) h₀ noMd := ⟨C.kind, cel2 hL, mdOk_none⟩
  refine hw_cons (ρ₁ := [("cells", VList ([cel ns 0, cel ns 1].map VInt)), ("script", VList (ns.map VInt))]) (HT.hw ?_) ?_
  · exact t0 C fx n0 n3 hns
  refine hw_cons (ρ₁ := ("words", VList [VStr (stB [])]) :: [("cells", VList ([cel ns 0, cel ns 1].map VInt)), ("script", VList (ns.map VInt))]) (HT.hw ?_) ?_
  · exact t1 fx
  refine hw_cons (ρ₁ := [("words", VList ((WL 3).map fun w => VStr (stB w))), ("cells", VList ([cel ns 0, cel ns 1].map VInt))]) (HT.hw ?_) ?_
  · exact t2 C fx n0 n2 (by walk_at "lk") (by walk_at "lk")
  refine hw_cons (ρ₁ := [("words", wordsV), ("cells", VList ([cel ns 0, cel ns 1].map VInt))]) (HT.hw ?_) ?_
  · refine ht_sub (ρ₁ := ("words", wordsV) :: [("words", VList ((WL 3).map fun w => VStr (stB w))), ("cells", VList ([cel ns 0, cel ns 1].map VInt))]) ?_ (by walk_at "sub")
    exact t3 C fx n1 (by walk_at "lk")
  refine hw_cons (ρ₁ := [("images", VOwn h₀ [imV (at15 (cel ns 0)) (at15 ((cel ns 0).fdiv 15)), imV (at15 (cel ns 1)) (at15 ((cel ns 1).fdiv 15))]), ("words", wordsV)]) (HT.hw ?_) ?_
  · refine ht_sub (ρ₁ := ("images", VOwn h₀ [imV (at15 (cel ns 0)) (at15 ((cel ns 0).fdiv 15)), imV (at15 (cel ns 1)) (at15 ((cel ns 1).fdiv 15))]) :: [("words", wordsV), ("cells", VList ([cel ns 0, cel ns 1].map VInt))]) ?_ (by walk_at "sub")
    exact t4 C fx
  generalize hx0 : at15 (cel ns 0) = x0
  generalize hy0 : at15 ((cel ns 0).fdiv 15) = y0
  generalize hx1 : at15 (cel ns 1) = x1
  generalize hy1 : at15 ((cel ns 1).fdiv 15) = y1
  have l0 : x0.length ≤ 3 := hx0 ▸ at15_short _
  have l1 : y0.length ≤ 3 := hy0 ▸ at15_short _
  have l2 : x1.length ≤ 3 := hx1 ▸ at15_short _
  have l3 : y1.length ≤ 3 := hy1 ▸ at15_short _
  refine hw_cons (ρ₁ := [("pairs", VOwn h₀ [VList ((six x0 y0).map VStr), VList ((six x1 y1).map VStr)]), ("images", VOwn h₀ [imV x0 y0, imV x1 y1]), ("words", wordsV)]) (HT.hw ?_) ?_
  · exact t5 (ds := [(x0, y0), (x1, y1)]) C fx (by simp)
  refine hw_cons (t6 C hroom fx d3 l0 l1 l2 l3) ?_
  refine hw_cons (t7 C fx (sep_strs (xs := [stB (phi x1 y1 x0), stB (phi x1 y1 y0)]) (ne_ref_str (Vs := [])))) ?_
  refine hw_cons (HT.hw (t8_all C hroom fx hu n0 n1 n2 d0 d1 d2 d3 l0 l1 l2 l3)) ?_
  exact HR.hw (hr_return onNo ev_bool)
end
end Mine

end
section
namespace Mine
theorem cells_of {h₀ h : Heap} {L : Addr} {cm : Str → Option Value} {cs : List (Str × Addr)} {cells : List (Addr × Obj)} (N : News h₀ L h cells) (X : CellsAre cm cs cells) : ∀ n c, cs.lookup n = some c → h.IsCell c (cm n) := by
  induction X with
  | nil => intro n c e; cases e
  | @cons n' c' o cs cells hd X ih =>
    intro n c e
    rw [List.lookup_cons] at e
    cases hb : n == n' with
    | true => rw [hb] at e; cases e; rw [eq_of_beq hb]; exact ⟨o, N.get (List.mem_cons_self ..), hd⟩
    | false => rw [hb] at e; exact ih (fun p hp => N p (List.mem_cons_of_mem _ hp)) n c e
theorem room2 {L fa : Addr} {cd : Value} : (callerA.deeper (E2 L fa cd)).depth < recursionLimit := by rw [depth_deeper, depth_caller]; decide
theorem units2 {L fa : Addr} {cd : Value} : (callerA.deeper (E2 L fa cd)).units + 64 < cLine := by rw [units_deeper, units_caller]; decide
theorem cx2 {L fa : Addr} {cd : Value} {h : Heap} {defs names} (GL : GlobAt defs names h) : Cx (callerA.deeper (E2 L fa cd)) (E2 L fa cd) h defs names := by
  refine ⟨?_, ?_, ?_, ?_, GL⟩
  · kernel_rfl!
  · kernel_rfl!
  · kernel_rfl!
  · kernel_rfl!
set_option maxRecDepth 20000 in
set_option maxHeartbeats 200000 in
theorem law2_fin {prog : Program} {w : World} {N : Nat} {mg mb : Str → Option Value} {defs : List DefItem} {consts objs} {names : List Str} {s₁ : Shared} {h₁ : Heap} {tk : Nat} {L fa a : Addr} {cd : Value} {m cm : Str → Option Value} {vs : List Value} {ns : List Int} {cells : List (Addr × Obj)}
    {E : Value → Shared → Prop} {Q : Flow → Shared → Prop}
    (GL : Glob N mg mb defs consts objs names s₁.heap) (d0 : dRep ∈ defs) (d1 : dLow ∈ defs) (d2 : dHigh ∈ defs) (d3 : dRew ∈ defs) (n0 : ("range" : Str) ∉ names) (n1 : ("sorted" : Str) ∉ names) (n2 : ("len" : Str) ∉ names) (n3 : ("sum" : Str) ∉ names)
    (hsz : s₁.heap.objs.size ≤ L) (F : Fr s₁.heap L h₁ m) (N0 : News s₁.heap L h₁ cells) (X0 : CellsAre cm (cellsFrom (L + 1) dLaw2.scope.names []) cells) (hm : cm "script" = some (.ref a))
    (hL : s₁.heap.IsList a vs.toArray) (hI : IntsAre vs ns) (hns : ¬ ((63 : Nat) : Int) < ((ns.length : Nat) : Int))
    (hq : ∀ h' tk', Kp s₁.heap h' → Q (.ret (.bool true)) { heap := h', gens := s₁.gens, drawn := s₁.drawn, toks := tk', os := s₁.os }) :
    wpAny (model prog w) (callerA.deeper (E2 L fa cd)) (execs dLaw2.body (E2 L fa cd)) Q E { heap := h₁, gens := s₁.gens, drawn := s₁.drawn, toks := tk, os := s₁.os } := by
  have hG : GlobAt defs names s₁.heap := ⟨N, mg, mb, consts, objs, GL⟩
  have C := cx2 (L := L) (fa := fa) (cd := cd) hG
  have hr := room2 (L := L) (fa := fa) (cd := cd)
  have hu := units2 (L := L) (fa := fa) (cd := cd)
  have H := @law2_run prog w (callerA.deeper (E2 L fa cd)) L fa cd s₁.heap defs names ns C hr hu hsz n0 n1 n2 n3 d0 d1 d2 d3 (Nat.le_of_not_lt fun h => hns (Int.ofNat_lt.mpr h))
  have X0' : CellsAre cm (cE2 L) cells := by rw [← cells2 (L := L) (f := fa) (cd := cd)]; exact X0
  have hcell := cells_of N0 X0'
  have hF : FrameIs (E2 L fa cd) s₁.heap [("script", VList (ns.map VInt))] (fun _ => False) h₁ := by
    have F' : Fr s₁.heap (E2 L fa cd).locals h₁ m := locals2.symm ▸ F
    refine ⟨m, F', ?_, ?_⟩
    · intro x V hx
      by_cases hxp : x = "script"
      · subst hxp
        rw [List.lookup_cons_self] at hx
        obtain rfl := Option.some.inj hx
        obtain ⟨o, ho, hc, n, hd⟩ := hL
        refine ⟨.ref a, ⟨a, vs, rfl, id, ⟨o, F.keep _ _ ho, hc, n, hd⟩, ints_of hI⟩, .inr ⟨.inl (by kernel_rfl!), L + 1, ?_, ?_⟩⟩
        · rw [cells2]; kernel_rfl!
        · rw [← hm]; exact hcell _ _ (by kernel_rfl!)
      · rw [List.lookup_cons, show (x == Str.ofString "script") = false by simpa using hxp] at hx; simp at hx
    · intro n c hc
      rw [cells2] at hc
      exact ⟨_, hcell n c hc⟩
  have a2 : Off (fun (_ : Addr) => False) h₁ := fun _ h => False.elim h
  have key := @H { heap := h₁, gens := s₁.gens, drawn := s₁.drawn, toks := tk, os := s₁.os } (fun _ => False) a2 hF E Q
  refine @key ?_
  rintro v h' tk' rfl hk
  exact hq h' tk' hk
end Mine

end
namespace Mine
theorem goodW_kp {c : ClaimW} {cl : Str → Option Addr} {mean : ExcName → Option Value} {args : List WData} {s₁ s' : Shared} {b : Bool} (F : Kp s₁.heap s'.heap) (hg : s'.gens = #[]) (hn : ∀ cls, c.raises args cls = false) (hp : c.post args (.bool b) args = true) (hos : s'.os = s₁.os := by rfl) :
    GoodW c cl mean args s₁ (.ok (.ret (.bool b))) s' := ⟨.inl ⟨.bool b, .bool b, [], rfl, hn, .bool b, hp, unshared_nil⟩, F, hos, hg⟩

end Mine
set_option maxRecDepth 100000 in
set_option maxHeartbeats 8000000 in
theorem PySem.Challenge.cw_rl0006_02_holds : PySem.Challenge.rw_rl0006_02.Holds := by
  w_on; o_law; k_head; (case hw => w_witness2)
  k_go0
  all_goals try k_fold
  refine' @Mine.law2_fin _ _ _ _ _ _ _ _ _ _ _ _ _ _ _ _ _ _ _ _ _ _ _ ?GL ?d0 ?d1 ?d2 ?d3 ?n0 ?n1 ?n2 ?n3 ?hsz ?F ?N0 ?X0 ?hm ?hL ?hI ?hns ?hq
  case GL => assumption
  case F => assumption
  case N0 => assumption
  case X0 => assumption
  case hI => assumption
  case hL => assumption
  case hns => assumption
  case hsz => exact Nat.le_refl _
  case hm => kernel_rfl!
  case d0 => exact List.mem_of_getElem? (i := 0) (by kernel_rfl!)
  case d1 => exact List.mem_of_getElem? (i := 1) (by kernel_rfl!)
  case d2 => exact List.mem_of_getElem? (i := 2) (by kernel_rfl!)
  case d3 => exact List.mem_of_getElem? (i := 3) (by kernel_rfl!)
  case n0 => decide +kernel
  case n1 => decide +kernel
  case n2 => decide +kernel
  case n3 => decide +kernel
  case hq =>
    intro h' tk' hk
    (show GoodW _ _ _ _ _ (.ok (.ret (.bool _))) _)
    refine' Mine.goodW_kp hk ?hg (raisesW_false ?_) ?_
    · assumption
    · wrow_none_raised
    · kc_post
