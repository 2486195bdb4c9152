import PyProof.Rows.All
import Wide.All
import OpenK.AllK
import Wide.FinOn
import PySem.Challenge.RW_wn0010_01
-- part H
section
open PySem PySem.W PyProof.Rows
set_option Elab.async false
set_option maxRecDepth 100000
set_option maxHeartbeats 8000000
namespace Mine
open_top hd for PySem.Challenge.rw_wn0010_01
end Mine

end

-- part Fw1
section
open PySem PySem.W PyProof.Rows
set_option Elab.async false
namespace Mine

/-- plain data -/
inductive D where
  | int (i : Int)
  | str (x : Str)
  | bool (b : Bool)
  | list (l : List D)
  | tup (l : List D)
  | script (l : List Int)

abbrev tupObj (vs : List Value) (n : Nat) : Obj := { cls := .type "tuple", data := .seq vs.toArray n }

mutual
/-- a value bears plain data in a heap, its objects within N -/
def Rep (N : Addr → Prop) (h : Heap) : D → Value → Prop
  | .int i, v => ∃ t, v = .int i t
  | .str x, v => ∃ t, v = .str x t
  | .bool b, v => v = .bool b
  | .list ds, v => ∃ a vs n, v = .ref a ∧ N a ∧ IsL h a vs.toArray n ∧ RepL N h ds vs
  | .tup ds, v => ∃ a vs n, v = .ref a ∧ N a ∧ h.get? a = some (tupObj vs n) ∧ RepL N h ds vs
  | .script l, v => ∃ a vs, v = .ref a ∧ N a ∧ h.IsList a vs.toArray ∧ IntsAre vs l
def RepL (N : Addr → Prop) (h : Heap) : List D → List Value → Prop
  | [], vs => vs = []
  | d :: ds, vs => ∃ v r, vs = v :: r ∧ Rep N h d v ∧ RepL N h ds r
end

section
variable {N N' : Addr → Prop} {h h' : Heap}
mutual
theorem Rep.map (k : ∀ b o, N b → h.get? b = some o → N' b ∧ h'.get? b = some o) : ∀ {d : D} {v : Value}, Rep N h d v → Rep N' h' d v
  | .int _, _, r => by unfold Rep at *; exact r
  | .str _, _, r => by unfold Rep at *; exact r
  | .bool _, _, r => by unfold Rep at *; exact r
  | .list ds, v, r => by
    unfold Rep at *
    obtain ⟨a, vs, n, e, ha, hl, hr⟩ := r
    exact ⟨a, vs, n, e, (k _ _ ha hl).1, (k _ _ ha hl).2, RepL.map k hr⟩
  | .tup ds, v, r => by
    unfold Rep at *
    obtain ⟨a, vs, n, e, ha, hl, hr⟩ := r
    exact ⟨a, vs, n, e, (k _ _ ha hl).1, (k _ _ ha hl).2, RepL.map k hr⟩
  | .script l, v, r => by
    unfold Rep at *
    obtain ⟨a, vs, e, ha, ⟨o, ho, c⟩, hr⟩ := r
    exact ⟨a, vs, e, (k _ _ ha ho).1, ⟨o, (k _ _ ha ho).2, c⟩, hr⟩
theorem RepL.map (k : ∀ b o, N b → h.get? b = some o → N' b ∧ h'.get? b = some o) : ∀ {ds : List D} {vs : List Value}, RepL N h ds vs → RepL N' h' ds vs
  | [], _, r => by unfold RepL at *; exact r
  | d :: ds, _, r => by
    unfold RepL at *
    obtain ⟨v, r', e, h1, h2⟩ := r
    exact ⟨v, r', e, Rep.map k h1, RepL.map k h2⟩
end
end

/-- the generators are still all bare: the new ones first -/
inductive Gens (a b : Array GenState) : Prop
  | mk : (AllBare b → AllBare a) → Gens a b
theorem Gens.refl (a : Array GenState) : Gens a a := ⟨fun x => x⟩
theorem Gens.trans {a b c : Array GenState} (x : Gens c b) (y : Gens b a) : Gens c a := by
  obtain ⟨x⟩ := x; obtain ⟨y⟩ := y; exact ⟨fun h => x (y h)⟩
theorem Gens.bare {a b : Array GenState} (x : Gens b a) (h : AllBare a) : AllBare b := by obtain ⟨x⟩ := x; exact x h

/-- what a pure step does to the machine: the heap grows, the rest stays -/
structure Gr (s s' : Shared) : Prop where
  keep : ∀ b o, s.heap.get? b = some o → s'.heap.get? b = some o
  gens : Gens s'.gens s.gens
  os : s'.os = s.os
  drawn : s'.drawn = s.drawn
  toks : s.toks ≤ s'.toks

theorem Gr.refl (s : Shared) : Gr s s := ⟨fun _ _ e => e, .refl _, rfl, rfl, Nat.le_refl _⟩
theorem Gr.trans {a b c : Shared} (x : Gr a b) (y : Gr b c) : Gr a c :=
  ⟨fun q o e => y.keep q o (x.keep q o e), y.gens.trans x.gens, y.os.trans x.os, y.drawn.trans x.drawn, Nat.le_trans x.toks y.toks⟩
theorem Gr.tok (s : Shared) (k : Nat) (hk : s.toks ≤ k) : Gr s { s with toks := k } := ⟨fun _ _ e => e, .refl _, rfl, rfl, hk⟩
theorem Gr.push (s : Shared) (o : Obj) (k : Nat) (hk : s.toks ≤ k) : Gr s { s with heap := s.heap.push o, toks := k } := ⟨fun _ _ e => Heap.get?_push_of_some _ e, .refl _, rfl, rfl, hk⟩
theorem Gr.heap {s : Shared} {h : Heap} {k : Nat} (hk : s.toks ≤ k) (x : ∀ b o, s.heap.get? b = some o → h.get? b = some o) : Gr s { s with heap := h, toks := k } := ⟨x, .refl _, rfl, rfl, hk⟩
theorem Rep.gr {N : Addr → Prop} {s s' : Shared} (g : Gr s s') {d : D} {v : Value} (r : Rep N s.heap d v) : Rep N s'.heap d v :=
  r.map fun b o hb e => ⟨hb, g.keep b o e⟩
theorem RepL.gr {N : Addr → Prop} {s s' : Shared} (g : Gr s s') {d : List D} {v : List Value} (r : RepL N s.heap d v) : RepL N s'.heap d v :=
  r.map fun b o hb e => ⟨hb, g.keep b o e⟩

abbrev Ext (h h' : Heap) : Prop := ∀ b o, h.get? b = some o → h'.get? b = some o

/-- a tree gives data d, growing the heap alone -/
def Gives (prog : Program) (w : World) (A : Around) (N : Addr → Prop) (d : D) (t : Sem Value) (s : Shared) : Prop :=
  ∀ (Q : Value → Shared → Prop) (E : Value → Shared → Prop), (∀ v s', Gr s s' → Rep N s'.heap d v → Q v s') → wpAny (model prog w) A t Q E s

/-- a pure expression gives data d from any heap that extends h -/
def Ev (prog : Program) (w : World) (A : Around) (N : Addr → Prop) (env : Env) (h : Heap) (e : Expr) (d : D) : Prop :=
  ∀ (s : Shared), Ext h s.heap → 0 < s.toks → Gives prog w A N d (eval e env) s

def Tr (prog : Program) (w : World) (A : Around) (env : Env) (h : Heap) (e : Expr) (b : Bool) : Prop :=
  ∀ (s : Shared) (Q : Bool → Shared → Prop) (E : Value → Shared → Prop), Ext h s.heap → 0 < s.toks → (∀ s', Gr s s' → Q b s') → wpAny (model prog w) A (isTrue e env (eval e env)) Q E s

section
variable {prog : Program} {w : World} {A : Around} {N : Addr → Prop} {env : Env} {h : Heap}

theorem Ev.int {i : Int} {k : Nat} {p : Pos} : Ev prog w A N env h (.Constant (.int i) k p) (.int i) := fun s _ _ Q E q =>
  wpAny_Constant_int (q _ _ (Gr.tok s _ (Nat.le_succ _)) (by unfold Rep; exact ⟨_, rfl⟩))
theorem Ev.str {x : Str} {k : Nat} {p : Pos} : Ev prog w A N env h (.Constant (.str x) k p) (.str x) := fun s _ _ Q E q =>
  wpAny_Constant_str (q _ _ (Gr.tok s _ (Nat.le_succ _)) (by unfold Rep; exact ⟨_, rfl⟩))
theorem Ev.bool {x : Bool} {k : Nat} {p : Pos} : Ev prog w A N env h (.Constant (.bool x) k p) (.bool x) := fun s _ _ Q E q =>
  wpAny_Constant_bool (q _ _ (Gr.refl s) (by unfold Rep; rfl))

/-- a name of the frame stands for v -/
inductive Has (env : Env) (h : Heap) (x : Str) (v : Value) : Prop
  | loc {m : Str → Option Value} : env.kindOf x = some .local → h.Ns env.locals m → m x = some v → Has env h x v
  | cell {c : Addr} : env.kindOf x = some .cell → env.cells.lookup x = some c → h.IsCell c (some v) → Has env h x v

theorem Ev.name {x : Str} {p : Pos} {v : Value} {d : D} (hk : env.scope.kind = .function) (H : Has env h x v) (R : Rep N h d v) (hd : (x == ("__debug__" : Str)) = false := by decide) :
    Ev prog w A N env h (.Name x p) d := fun s X _ Q E q => by
  have R' : Rep N s.heap d v := R.map fun b o hb e => ⟨hb, X b o e⟩
  cases H with
  | loc hl hn hv => exact wpAny_Name (wpAny_loadName_local hk hl (hn.keeps X) hv (q _ _ (Gr.refl s) R')) hd
  | cell hl hc hv => exact wpAny_Name (wpAny_loadName_cell hk hl hc (hv.keeps X) (q _ _ (Gr.refl s) R')) hd

/-- two operands, then an operation -/
theorem Ev.bin {op : Operator} {l r : Expr} {p : Pos} {a b d : D} (hl : Ev prog w A N env h l a) (hr : Ev prog w A N env h r b)
    (hop : ∀ (s : Shared) (u v : Value), Ext h s.heap → 0 < s.toks → Rep N s.heap a u → Rep N s.heap b v → Gives prog w A N d (binaryOp op u v) s) :
    Ev prog w A N env h (.BinOp l op r p) d := fun s X T Q E q =>
  wpAny_BinOp (hl s X T _ _ fun u s₁ g₁ r₁ => hr s₁ (fun b o e => g₁.keep b o (X b o e)) (Nat.lt_of_lt_of_le T g₁.toks) _ _ fun v s₂ g₂ r₂ =>
    hop s₂ u v (fun b o e => g₂.keep b o (g₁.keep b o (X b o e))) (Nat.lt_of_lt_of_le T (Nat.le_trans g₁.toks g₂.toks)) (r₁.gr g₂) r₂ _ _ fun x s₃ g₃ r₃ => q x s₃ (g₁.trans (g₂.trans g₃)) r₃)

theorem Rep.int_iff {i : Int} {v : Value} : Rep N h (.int i) v ↔ ∃ t, v = .int i t := by unfold Rep; exact Iff.rfl
theorem Rep.str_iff {i : Str} {v : Value} : Rep N h (.str i) v ↔ ∃ t, v = .str i t := by unfold Rep; exact Iff.rfl
theorem Rep.bool_iff {i : Bool} {v : Value} : Rep N h (.bool i) v ↔ v = .bool i := by unfold Rep; exact Iff.rfl
theorem Rep.list_iff {ds : List D} {v : Value} : Rep N h (.list ds) v ↔ ∃ a vs n, v = .ref a ∧ N a ∧ IsL h a vs.toArray n ∧ RepL N h ds vs := by
  constructor
  · intro r; unfold Rep at r; exact r
  · intro r; unfold Rep; exact r
theorem Rep.tup_iff {ds : List D} {v : Value} : Rep N h (.tup ds) v ↔ ∃ a vs n, v = .ref a ∧ N a ∧ h.get? a = some (tupObj vs n) ∧ RepL N h ds vs := by
  constructor
  · intro r; unfold Rep at r; exact r
  · intro r; unfold Rep; exact r
theorem Rep.script_iff {l : List Int} {v : Value} : Rep N h (.script l) v ↔ ∃ a vs, v = .ref a ∧ N a ∧ h.IsList a vs.toArray ∧ IntsAre vs l := by unfold Rep; exact Iff.rfl
theorem Rep.int' {i : Int} {t : Tok} : Rep N h (.int i) (.int i t) := Rep.int_iff.mpr ⟨_, rfl⟩
theorem Rep.str' {i : Str} {t : Tok} : Rep N h (.str i) (.str i t) := Rep.str_iff.mpr ⟨_, rfl⟩
theorem Rep.bool' {i : Bool} : Rep N h (.bool i) (.bool i) := Rep.bool_iff.mpr rfl

theorem Ev.addI {l r : Expr} {p : Pos} {a b : Int} (hl : Ev prog w A N env h l (.int a)) (hr : Ev prog w A N env h r (.int b)) : Ev prog w A N env h (.BinOp l .Add r p) (.int (a + b)) :=
  hl.bin hr fun s u v _ _ ru rv Q E q => by
    obtain ⟨t, rfl⟩ := Rep.int_iff.mp ru
    obtain ⟨t', rfl⟩ := Rep.int_iff.mp rv
    exact P.add_int (q _ _ (Gr.tok s _ (Nat.le_succ _)) .int')
theorem Ev.subI {l r : Expr} {p : Pos} {a b : Int} (hl : Ev prog w A N env h l (.int a)) (hr : Ev prog w A N env h r (.int b)) : Ev prog w A N env h (.BinOp l .Sub r p) (.int (a - b)) :=
  hl.bin hr fun s u v _ _ ru rv Q E q => by
    obtain ⟨t, rfl⟩ := Rep.int_iff.mp ru
    obtain ⟨t', rfl⟩ := Rep.int_iff.mp rv
    exact P.sub_int (q _ _ (Gr.tok s _ (Nat.le_succ _)) .int')
theorem Ev.mulI {l r : Expr} {p : Pos} {a b : Int} (hl : Ev prog w A N env h l (.int a)) (hr : Ev prog w A N env h r (.int b)) (hm : IntMulOk a b) : Ev prog w A N env h (.BinOp l .Mult r p) (.int (a * b)) :=
  hl.bin hr fun s u v _ _ ru rv Q E q => by
    obtain ⟨t, rfl⟩ := Rep.int_iff.mp ru
    obtain ⟨t', rfl⟩ := Rep.int_iff.mp rv
    exact P.mul_int (q _ _ (Gr.tok s _ (Nat.le_succ _)) .int') hm
theorem Ev.modI {l r : Expr} {p : Pos} {a b : Int} (hl : Ev prog w A N env h l (.int a)) (hr : Ev prog w A N env h r (.int b)) (hb : b ≠ 0) : Ev prog w A N env h (.BinOp l .Mod r p) (.int (a.fmod b)) :=
  hl.bin hr fun s u v _ _ ru rv Q E q => by
    obtain ⟨t, rfl⟩ := Rep.int_iff.mp ru
    obtain ⟨t', rfl⟩ := Rep.int_iff.mp rv
    exact PyProof.Rows.mod_int hb (q _ _ (Gr.tok s _ (Nat.le_succ _)) .int')

/-- the tokens never fall: a rule that hands on any count will do -/
theorem Gives.tk {s : Shared} {d : D} {t : Sem Value}
    (H : ∀ (Q : Value → Shared → Prop) (E : Value → Shared → Prop), (∀ v s', (s.toks ≤ s'.toks → Gr s s' ∧ Rep N s'.heap d v) → Q v s') → wpAny (model prog w) A t Q E s) : Gives prog w A N d t s :=
  fun Q E q => wpAny_with_toks (Nat.le_refl _) (H _ _ fun v s' k hle => q v s' (k hle).1 (k hle).2)

theorem Ev.addS {l r : Expr} {p : Pos} {a b : Str} (hl : Ev prog w A N env h l (.str a)) (hr : Ev prog w A N env h r (.str b)) (hsz : a.length + b.length ≤ sizeLine) : Ev prog w A N env h (.BinOp l .Add r p) (.str (a ++ b)) :=
  hl.bin hr fun s u v _ T ru rv => .tk fun Q E q => by
    obtain ⟨t, rfl⟩ := Rep.str_iff.mp ru
    obtain ⟨t', rfl⟩ := Rep.str_iff.mp rv
    exact SB.add (fun t k => q _ _ fun hk => ⟨Gr.tok s k hk, .str'⟩) hsz
end
end Mine

end

-- part Fw2
section
open PySem PySem.W PyProof.Rows
set_option Elab.async false
set_option linter.unusedVariables false
namespace Mine

/-- fresh addresses lie in N -/
def New (N : Addr → Prop) (h : Heap) : Prop := ∀ a, h.get? a = none → N a
theorem New.at {N : Addr → Prop} {h : Heap} {s : Shared} (n : New N h) (X : Ext h s.heap) {a : Addr} (ha : s.heap.objs.size ≤ a) : N a := n a <| by
  cases e : h.get? a with
  | none => rfl
  | some o => exact absurd (Heap.lt_size (X _ _ e)) (Nat.not_lt.mpr ha)
theorem New.of {N N' : Addr → Prop} {h : Heap} (n : New N h) (k : ∀ a, N a → N' a) : New N' h := fun a ha => k a (n a ha)

theorem RepL.nil {N : Addr → Prop} {h : Heap} : RepL N h [] [] := by unfold RepL; rfl
theorem RepL.cons {N : Addr → Prop} {h : Heap} {d : D} {ds : List D} {v : Value} {vs : List Value} (a : Rep N h d v) (b : RepL N h ds vs) : RepL N h (d :: ds) (v :: vs) := by
  unfold RepL; exact ⟨v, vs, rfl, a, b⟩
theorem RepL.cons_iff {N : Addr → Prop} {h : Heap} {d : D} {ds : List D} {vs : List Value} : RepL N h (d :: ds) vs ↔ ∃ v r, vs = v :: r ∧ Rep N h d v ∧ RepL N h ds r := by
  constructor
  · intro x; unfold RepL at x; exact x
  · intro x; unfold RepL; exact x
theorem RepL.nil_iff {N : Addr → Prop} {h : Heap} {vs : List Value} : RepL N h [] vs ↔ vs = [] := by
  constructor
  · intro x; unfold RepL at x; exact x
  · intro x; unfold RepL; exact x
theorem RepL.append {N : Addr → Prop} {h : Heap} : ∀ {ds es : List D} {vs us : List Value}, RepL N h ds vs → RepL N h es us → RepL N h (ds ++ es) (vs ++ us)
  | [], _, vs, _, a, b => by rw [RepL.nil_iff.mp a]; exact b
  | d :: ds, es, vs, us, a, b => by
    obtain ⟨v, r, rfl, h1, h2⟩ := RepL.cons_iff.mp a
    exact .cons h1 (h2.append b)
theorem RepL.length {N : Addr → Prop} {h : Heap} : ∀ {ds : List D} {vs : List Value}, RepL N h ds vs → vs.length = ds.length
  | [], vs, a => by rw [RepL.nil_iff.mp a]; rfl
  | d :: ds, vs, a => by
    obtain ⟨v, r, rfl, h1, h2⟩ := RepL.cons_iff.mp a
    simp [h2.length]
theorem RepL.get {N : Addr → Prop} {h : Heap} : ∀ {ds : List D} {vs : List Value}, RepL N h ds vs → ∀ {i : Nat} {d : D}, ds[i]? = some d → ∃ v, vs[i]? = some v ∧ Rep N h d v
  | [], _, _, _, _, e => by simp at e
  | d :: ds, vs, a, 0, x, e => by
    obtain ⟨v, r, rfl, h1, h2⟩ := RepL.cons_iff.mp a
    simp at e; subst e; exact ⟨v, rfl, h1⟩
  | d :: ds, vs, a, i + 1, x, e => by
    obtain ⟨v, r, rfl, h1, h2⟩ := RepL.cons_iff.mp a
    simp at e; simpa using h2.get e
theorem RepL.take {N : Addr → Prop} {h : Heap} : ∀ {ds : List D} {vs : List Value} (n : Nat), RepL N h ds vs → RepL N h (ds.take n) (vs.take n)
  | _, _, 0, _ => by simp [RepL.nil]
  | [], vs, n + 1, a => by rw [RepL.nil_iff.mp a]; simp [RepL.nil]
  | d :: ds, vs, n + 1, a => by
    obtain ⟨v, r, rfl, h1, h2⟩ := RepL.cons_iff.mp a
    exact .cons h1 (h2.take n)
theorem RepL.drop {N : Addr → Prop} {h : Heap} : ∀ {ds : List D} {vs : List Value} (n : Nat), RepL N h ds vs → RepL N h (ds.drop n) (vs.drop n)
  | _, _, 0, a => by simpa using a
  | [], vs, n + 1, a => by rw [RepL.nil_iff.mp a]; simp [RepL.nil]
  | d :: ds, vs, n + 1, a => by
    obtain ⟨v, r, rfl, h1, h2⟩ := RepL.cons_iff.mp a
    exact h2.drop n
theorem RepL.ints {N : Addr → Prop} {h : Heap} : ∀ {ns : List Int} {vs : List Value}, RepL N h (ns.map .int) vs → IntsAre vs ns
  | [], vs, a => by rw [RepL.nil_iff.mp a]; exact .nil
  | n :: ns, vs, a => by
    obtain ⟨v, r, rfl, h1, h2⟩ := RepL.cons_iff.mp a
    obtain ⟨t, rfl⟩ := Rep.int_iff.mp h1
    exact .cons n t (RepL.ints h2)
theorem RepL.ofInts {N : Addr → Prop} {h : Heap} : ∀ {ns : List Int} {vs : List Value}, IntsAre vs ns → RepL N h (ns.map .int) vs
  | _, _, .nil => RepL.nil
  | _, _, .cons n t r => .cons .int' (RepL.ofInts r)

section
variable {prog : Program} {w : World} {A : Around} {N : Addr → Prop} {env : Env} {h : Heap}

theorem Ext.gr {s s' : Shared} (X : Ext h s.heap) (g : Gr s s') : Ext h s'.heap := fun b o e => g.keep b o (X b o e)

theorem Ev.mulS {l r : Expr} {p : Pos} {a : Str} {n : Int} (hl : Ev prog w A N env h l (.str a)) (hr : Ev prog w A N env h r (.int n)) (hm : MulOk a n) : Ev prog w A N env h (.BinOp l .Mult r p) (.str (Txt.mul a n)) :=
  hl.bin hr fun s u v _ T ru rv => .tk fun Q E q => by
    obtain ⟨t, rfl⟩ := Rep.str_iff.mp ru
    obtain ⟨t', rfl⟩ := Rep.int_iff.mp rv
    exact SB.mul hm (fun t k => q _ _ fun hk => ⟨Gr.tok s k hk, .str'⟩)
theorem Ev.fdivI {l r : Expr} {p : Pos} {a b : Int} (hl : Ev prog w A N env h l (.int a)) (hr : Ev prog w A N env h r (.int b)) (hb : b ≠ 0) (hp : Builtin.divisionGoesByPylong a b = false) : Ev prog w A N env h (.BinOp l .FloorDiv r p) (.int (a.fdiv b)) :=
  hl.bin hr fun s u v _ _ ru rv Q E q => by
    obtain ⟨t, rfl⟩ := Rep.int_iff.mp ru
    obtain ⟨t', rfl⟩ := Rep.int_iff.mp rv
    exact AutoIntOps.floordiv_1 (by simpa using hb) (by rw [hp]; exact Bool.false_ne_true) (q _ _ (Gr.tok s _ (Nat.le_succ _)) .int')
theorem Ev.addL {l r : Expr} {p : Pos} {a b : List D} (hN : New N h) (hl : Ev prog w A N env h l (.list a)) (hr : Ev prog w A N env h r (.list b)) (hsz : a.length + b.length ≤ sizeLine) : Ev prog w A N env h (.BinOp l .Add r p) (.list (a ++ b)) :=
  hl.bin hr fun s u v X _ ru rv Q E q => by
    obtain ⟨x, vs, n, rfl, hx, hlx, rx⟩ := Rep.list_iff.mp ru
    obtain ⟨y, us, k, rfl, hy, hly, ry⟩ := Rep.list_iff.mp rv
    refine P.add_list hlx hly (q _ _ (Gr.push s _ _ (Nat.le_refl _)) ?_) (by simp [rx.length, ry.length]; exact hsz)
    refine Rep.list_iff.mpr ⟨_, vs ++ us, 0, rfl, hN.at X (Nat.le_refl _), ?_, (rx.append ry).gr (Gr.push s _ _ (Nat.le_refl _))⟩
    have := IsL.new s.heap (vs.toArray ++ us.toArray)
    simpa using this

/-- a comparison of two data -/
def Cmp (prog : Program) (w : World) (A : Around) (N : Addr → Prop) (op : CmpOp) (a b : D) (r : Bool) : Prop :=
  ∀ (s : Shared) (u v : Value), 0 < s.toks → Rep N s.heap a u → Rep N s.heap b v → Gives prog w A N (.bool r) (compareOp op u v) s

theorem Ev.cmp {op : CmpOp} {l r : Expr} {p : Pos} {a b : D} {c : Bool} (hl : Ev prog w A N env h l a) (hr : Ev prog w A N env h r b) (C : Cmp prog w A N op a b c)
    (hm : behindInMarks op r = false := by with_unfolding_all rfl) : Ev prog w A N env h (.Compare l [op] [r] p) (.bool c) := fun s X T Q E q =>
  wpAny_Compare1 (hm := hm) (hl s X T _ _ fun u s₁ g₁ r₁ => hr s₁ (X.gr g₁) (Nat.lt_of_lt_of_le T g₁.toks) _ _ fun v s₂ g₂ r₂ =>
    C s₂ u v (Nat.lt_of_lt_of_le T (Nat.le_trans g₁.toks g₂.toks)) (r₁.gr g₂) r₂ _ _ fun x s₃ g₃ r₃ => q x s₃ (g₁.trans (g₂.trans g₃)) r₃)
theorem Tr.cmp {op : CmpOp} {l r : Expr} {p : Pos} {a b : D} {c : Bool} (hl : Ev prog w A N env h l a) (hr : Ev prog w A N env h r b) (C : Cmp prog w A N op a b c)
    (hm : behindInMarks op r = false := by with_unfolding_all rfl) : Tr prog w A env h (.Compare l [op] [r] p) c := fun s Q E X T q =>
  wpAny_isTrue_Compare1 (hm := hm) (hl s X T _ _ fun u s₁ g₁ r₁ => hr s₁ (X.gr g₁) (Nat.lt_of_lt_of_le T g₁.toks) _ _ fun v s₂ g₂ r₂ =>
    C s₂ u v (Nat.lt_of_lt_of_le T (Nat.le_trans g₁.toks g₂.toks)) (r₁.gr g₂) r₂ _ _ fun x s₃ g₃ r₃ => by
      rw [Rep.bool_iff.mp r₃]; exact wpAny_truthy_bool (q s₃ (g₁.trans (g₂.trans g₃))))

theorem Cmp.eqI {a b : Int} : Cmp prog w A N .Eq (.int a) (.int b) (decide (a = b)) := fun s u v _ ru rv Q E q => by
  obtain ⟨t, rfl⟩ := Rep.int_iff.mp ru
  obtain ⟨t', rfl⟩ := Rep.int_iff.mp rv
  refine P.eq_int (q _ _ (Gr.refl s) ?_)
  rw [Rep.bool_iff]; congr 1
theorem Cmp.neI {a b : Int} : Cmp prog w A N .NotEq (.int a) (.int b) (decide (a ≠ b)) := fun s u v _ ru rv Q E q => by
  obtain ⟨t, rfl⟩ := Rep.int_iff.mp ru
  obtain ⟨t', rfl⟩ := Rep.int_iff.mp rv
  refine P.ne_int (q _ _ (Gr.refl s) ?_)
  rw [Rep.bool_iff]; congr 1
  rw [Bool.eq_iff_iff]; simp
theorem Cmp.gtI {a b : Int} : Cmp prog w A N .Gt (.int a) (.int b) (decide (b < a)) := fun s u v _ ru rv Q E q => by
  obtain ⟨t, rfl⟩ := Rep.int_iff.mp ru
  obtain ⟨t', rfl⟩ := Rep.int_iff.mp rv
  exact P.gt_int (q _ _ (Gr.refl s) Rep.bool')
theorem Cmp.ltI {a b : Int} : Cmp prog w A N .Lt (.int a) (.int b) (decide (a < b)) := fun s u v _ ru rv Q E q => by
  obtain ⟨t, rfl⟩ := Rep.int_iff.mp ru
  obtain ⟨t', rfl⟩ := Rep.int_iff.mp rv
  exact P.lt_int (q _ _ (Gr.refl s) Rep.bool')
theorem str_beq (a b : Str) : (a.cps.toList == b.cps.toList) = decide (a = b) := by
  obtain ⟨⟨x⟩⟩ := a; obtain ⟨⟨y⟩⟩ := b
  rw [Bool.eq_iff_iff]; simp
theorem Cmp.eqS {a b : Str} : Cmp prog w A N .Eq (.str a) (.str b) (decide (a = b)) := fun s u v _ ru rv Q E q => by
  obtain ⟨t, rfl⟩ := Rep.str_iff.mp ru
  obtain ⟨t', rfl⟩ := Rep.str_iff.mp rv
  refine P.eq_str (q _ _ (Gr.refl s) ?_)
  rw [Rep.bool_iff, str_beq]
theorem Cmp.neS {a b : Str} : Cmp prog w A N .NotEq (.str a) (.str b) (decide (a ≠ b)) := fun s u v _ ru rv Q E q => by
  obtain ⟨t, rfl⟩ := Rep.str_iff.mp ru
  obtain ⟨t', rfl⟩ := Rep.str_iff.mp rv
  refine P.ne_str (q _ _ (Gr.refl s) ?_)
  rw [Rep.bool_iff, bne, str_beq]; congr 1
  simp
theorem Cmp.inS {a b : Str} : Cmp prog w A N .In (.str a) (.str b) (Txt.contains b a) := fun s u v _ ru rv Q E q => by
  obtain ⟨t, rfl⟩ := Rep.str_iff.mp ru
  obtain ⟨t', rfl⟩ := Rep.str_iff.mp rv
  exact SB.contains (q _ _ (Gr.refl s) Rep.bool')

/-- truth of a plain value -/
theorem Tr.int {e : Expr} {a : Int} (H : Ev prog w A N env h e (.int a)) (he : ∀ whole : Sem Value, isTrue e env whole = (do let v ← whole; standAt e.pos; holding [v] (truthy v)) := by intro _; rfl) :
    Tr prog w A env h e (decide (a ≠ 0)) := fun s Q E X T q => by
  refine wpAny_isTrue_value (H s X T _ _ fun v s₁ g r => ?_) (he _)
  obtain ⟨t, rfl⟩ := Rep.int_iff.mp r
  refine P.truthy_int ?_
  have e1 : (a != 0) = decide (a ≠ 0) := by rw [Bool.eq_iff_iff]; simp
  rw [e1]; exact q s₁ g
theorem Tr.str {e : Expr} {a : Str} (H : Ev prog w A N env h e (.str a)) (hsz : a.length ≤ sizeLine) (he : ∀ whole : Sem Value, isTrue e env whole = (do let v ← whole; standAt e.pos; holding [v] (truthy v)) := by intro _; rfl) :
    Tr prog w A env h e (decide (a.length ≠ 0)) := fun s Q E X T q => by
  refine wpAny_isTrue_value (H s X T _ _ fun v s₁ g r => ?_) (he _)
  obtain ⟨t, rfl⟩ := Rep.str_iff.mp r
  have hz : ¬ (a.length : Int) ≥ 2 ^ 63 := by have := hsz; rw [sizeLine_eq] at this; omega
  refine P.truthy_str hz ?_
  have e1 : ((a.length : Int) != 0) = decide (a.length ≠ 0) := by rw [Bool.eq_iff_iff]; simp
  rw [e1]; exact q _ (g.trans (Gr.tok s₁ _ (by omega)))
theorem Tr.bool {e : Expr} {b : Bool} (H : Ev prog w A N env h e (.bool b)) (he : ∀ whole : Sem Value, isTrue e env whole = (do let v ← whole; standAt e.pos; holding [v] (truthy v)) := by intro _; rfl) :
    Tr prog w A env h e b := fun s Q E X T q => by
  refine wpAny_isTrue_value (H s X T _ _ fun v s₁ g r => ?_) (he _)
  rw [Rep.bool_iff.mp r]
  exact wpAny_truthy_bool (q s₁ g)

def TrAll (prog : Program) (w : World) (A : Around) (env : Env) (h : Heap) (op : BoolOp) (es : List Expr) (b : Bool) : Prop :=
  ∀ (s : Shared) (Q : Bool → Shared → Prop) (E : Value → Shared → Prop), Ext h s.heap → 0 < s.toks → (∀ s', Gr s s' → Q b s') → wpAny (model prog w) A (allTrue op es env) Q E s
theorem TrAll.and_nil : TrAll prog w A env h .And [] true := fun s Q E _ _ q => wpAny_allTrue_And_nil (q s (Gr.refl s))
theorem TrAll.or_nil : TrAll prog w A env h .Or [] false := fun s Q E _ _ q => wpAny_allTrue_Or_nil (q s (Gr.refl s))
theorem TrAll.and_cons {e : Expr} {r : List Expr} {a b : Bool} (H : Tr prog w A env h e a) (R : a = true → TrAll prog w A env h .And r b) : TrAll prog w A env h .And (e :: r) (a && b) := fun s Q E X T q =>
  wpAny_allTrue_And_cons (H s _ _ X T fun s₁ g => by
    cases a with
    | false => rw [if_neg Bool.false_ne_true]; exact q s₁ g
    | true => rw [if_pos rfl]; exact R rfl s₁ _ _ (X.gr g) (Nat.lt_of_lt_of_le T g.toks) fun s₂ g₂ => q s₂ (g.trans g₂))
theorem TrAll.or_cons {e : Expr} {r : List Expr} {a b : Bool} (H : Tr prog w A env h e a) (R : a = false → TrAll prog w A env h .Or r b) : TrAll prog w A env h .Or (e :: r) (a || b) := fun s Q E X T q =>
  wpAny_allTrue_Or_cons (H s _ _ X T fun s₁ g => by
    cases a with
    | true => rw [if_pos rfl]; exact q s₁ g
    | false => rw [if_neg Bool.false_ne_true]; exact R rfl s₁ _ _ (X.gr g) (Nat.lt_of_lt_of_le T g.toks) fun s₂ g₂ => q s₂ (g.trans g₂))
theorem Tr.of_all {op : BoolOp} {es : List Expr} {p : Pos} {b : Bool} (H : TrAll prog w A env h op es b) : Tr prog w A env h (.BoolOp op es p) b := fun s Q E X T q =>
  wpAny_isTrue_BoolOp (H s Q E X T q)

theorem Ev.ite {t x y : Expr} {p : Pos} {b : Bool} {d : D} (H : Tr prog w A env h t b) (hx : b = true → Ev prog w A N env h x d) (hy : b = false → Ev prog w A N env h y d) : Ev prog w A N env h (.IfExp t x y p) d := fun s X T Q E q =>
  wpAny_IfExp (H s _ _ X T fun s₁ g => by
    cases b with
    | true => simp only [if_true]; exact hx rfl s₁ (X.gr g) (Nat.lt_of_lt_of_le T g.toks) _ _ fun v s₂ g₂ r => q v s₂ (g.trans g₂) r
    | false => simp only [Bool.false_eq_true, if_false]; exact hy rfl s₁ (X.gr g) (Nat.lt_of_lt_of_le T g.toks) _ _ fun v s₂ g₂ r => q v s₂ (g.trans g₂) r)

/-- several expressions in turn -/
def EvL (prog : Program) (w : World) (A : Around) (N : Addr → Prop) (env : Env) (h : Heap) (p : Pos) (es : List Expr) (ds : List D) : Prop :=
  ∀ (s : Shared) (Q : List Value → Shared → Prop) (E : Value → Shared → Prop), Ext h s.heap → 0 < s.toks → (∀ vs s', Gr s s' → RepL N s'.heap ds vs → Q vs s') → wpAny (model prog w) A (spliced (backTo p (starEach es env))) Q E s
theorem EvL.nil {p : Pos} : EvL prog w A N env h p [] [] := fun s Q E _ _ q => wpAny_items_nil (q _ s (Gr.refl s) RepL.nil)
theorem EvL.cons {p : Pos} {e : Expr} {es : List Expr} {d : D} {ds : List D} (H : Ev prog w A N env h e d) (R : EvL prog w A N env h p es ds)
    (he : starEach (e :: es) env = (false, eval e env) :: starEach es env := by rfl) : EvL prog w A N env h p (e :: es) (d :: ds) := fun s Q E X T q =>
  wpAny_items_cons (he := he) (H s X T _ _ fun v s₁ g₁ r₁ => R s₁ _ _ (X.gr g₁) (Nat.lt_of_lt_of_le T g₁.toks) fun vs s₂ g₂ r₂ => q (v :: vs) s₂ (g₁.trans g₂) (.cons (r₁.gr g₂) r₂))

theorem Ev.list {es : List Expr} {p : Pos} {ds : List D} (hN : New N h) (H : EvL prog w A N env h p es ds) (hsz : ds.length ≤ sizeLine) : Ev prog w A N env h (.List es p) (.list ds) := fun s X T Q E q =>
  PySem.wpAny_List (H s _ _ X T fun vs s₁ g r => ⟨by rw [r.length]; exact hsz, q _ _ (g.trans (Gr.push s₁ _ _ (Nat.le_refl _)))
    (Rep.list_iff.mpr ⟨_, vs, 0, rfl, hN.at (X.gr g) (Nat.le_refl _), IsL.new _ _, r.gr (Gr.push s₁ _ _ (Nat.le_refl _))⟩)⟩)
theorem Ev.tup {es : List Expr} {k : Nat} {p : Pos} {ds : List D} (hN : New N h) (H : EvL prog w A N env h p es ds) (hsz : ds.length ≤ sizeLine) : Ev prog w A N env h (.Tuple es k p) (.tup ds) := fun s X T Q E q =>
  PySem.wpAny_Tuple (H s _ _ X T fun vs s₁ g r => ⟨by rw [r.length]; exact hsz, q _ _ (g.trans (Gr.push s₁ _ _ (Nat.le_refl _)))
    (Rep.tup_iff.mpr ⟨_, vs, 0, rfl, hN.at (X.gr g) (Nat.le_refl _), Heap.get?_push_size _ rfl, r.gr (Gr.push s₁ _ _ (Nat.le_refl _))⟩)⟩)

/-- an item -/
theorem Ev.item {v sl : Expr} {p : Pos} {a b d : D} (hv : Ev prog w A N env h v a) (hs : Ev prog w A N env h sl b)
    (hop : ∀ (s : Shared) (o i : Value), Ext h s.heap → 0 < s.toks → Rep N s.heap a o → Rep N s.heap b i →
      ∃ (T id : String), s.TypeIs o T ∧ typeLookup (.type T) "__getitem__" = pure (some (.builtin id)) ∧ Gives prog w A N d (getItem o i) s)
    (hsub : ∀ o i, subscripted sl false o i = operate [o, i] (getItem o i) := by intro _ _; rfl) : Ev prog w A N env h (.Subscript v sl p) d := fun s X T Q E q => by
  rw [eval_Subscript]
  refine wpAny_bind (hv s X T _ _ fun o s₁ g₁ r₁ => ?_)
  refine wpAny_bind (wpAny_holding (hs s₁ (X.gr g₁) (Nat.lt_of_lt_of_le T g₁.toks) _ _ fun i s₂ g₂ r₂ => ?_))
  refine wpAny_bind (wpAny_standAt ?_)
  obtain ⟨Ty, id, hT, hl, hg⟩ := hop s₂ o i (X.gr (g₁.trans g₂)) (Nat.lt_of_lt_of_le T (Nat.le_trans g₁.toks g₂.toks)) (r₁.gr g₂) r₂
  refine wpAny_bind ?_
  rw [getitemInPython_of_ne hT.not_modules]
  refine wpAny_bind (wpAny_specialOf hT hl ?_)
  have fin : wpAny (model prog w) A (subscripted sl false o i) (fun r s₃ => wpAny (model prog w) A (letTemporaryGo v o r >>= fun _ => pure r) Q E s₃) E s₂ := by
    rw [hsub]
    exact wpAny_operating (hg _ _ fun x s₃ g₃ r₃ => wpAny_bind (wpAny_letTemporaryGo (wpAny_pure (q x s₃ (g₁.trans (g₂.trans g₃)) r₃))))
  first
    | exact wpAny_pure (wpAny_bind fin)
    | exact wpAny_bind (wpAny_pure (wpAny_bind fin))
    | exact wpAny_bind fin

theorem Ev.itemL {v sl : Expr} {p : Pos} {ds : List D} {k : Int} {d : D} (hv : Ev prog w A N env h v (.list ds)) (hs : Ev prog w A N env h sl (.int k)) (h0 : 0 ≤ k) (hk : k < 2 ^ 63) (hd : ds[k.toNat]? = some d)
    (hsub : ∀ o i, subscripted sl false o i = operate [o, i] (getItem o i) := by intro _ _; rfl) : Ev prog w A N env h (.Subscript v sl p) d :=
  hv.item hs (hsub := hsub) fun s o i X T ro ri => by
    obtain ⟨x, vs, n, rfl, hx, hlx, rx⟩ := Rep.list_iff.mp ro
    obtain ⟨t, rfl⟩ := Rep.int_iff.mp ri
    obtain ⟨y, hy, ry⟩ := rx.get hd
    exact ⟨_, _, hlx.isList.typeIs, slot_list_getitem.lookup, fun Q E q => wpAny_getItem_list hlx.isList h0 hk (by simpa using hy) (q _ _ (Gr.refl s) ry)⟩
theorem Ev.itemT {v sl : Expr} {p : Pos} {ds : List Int} {k : Int} {d : Int} (hv : Ev prog w A N env h v (.script ds)) (hs : Ev prog w A N env h sl (.int k)) (h0 : 0 ≤ k) (hk : k < 2 ^ 63) (hd : ds[k.toNat]? = some d)
    (hsub : ∀ o i, subscripted sl false o i = operate [o, i] (getItem o i) := by intro _ _; rfl) : Ev prog w A N env h (.Subscript v sl p) (.int d) :=
  hv.item hs (hsub := hsub) fun s o i X T ro ri => by
    obtain ⟨x, vs, rfl, hx, hlx, rx⟩ := Rep.script_iff.mp ro
    obtain ⟨t, rfl⟩ := Rep.int_iff.mp ri
    obtain ⟨t', ht⟩ := rx.get _ _ hd
    exact ⟨_, _, hlx.typeIs, slot_list_getitem.lookup, fun Q E q => wpAny_getItem_list hlx h0 hk (by simpa using ht) (q _ _ (Gr.refl s) .int')⟩
theorem Ev.itemS {v sl : Expr} {p : Pos} {x : Str} {k : Int} (hv : Ev prog w A N env h v (.str x)) (hs : Ev prog w A N env h sl (.int k)) (hr : fitsSsize k = true) (hin : (Txt.charAt x k).isSome = true)
    (hsub : ∀ o i, subscripted sl false o i = operate [o, i] (getItem o i) := by intro _ _; rfl) : Ev prog w A N env h (.Subscript v sl p) (.str (Txt.item x k)) :=
  hv.item hs (hsub := hsub) fun s o i X T ro ri => by
    obtain ⟨t, rfl⟩ := Rep.str_iff.mp ro
    obtain ⟨t', rfl⟩ := Rep.int_iff.mp ri
    exact ⟨_, _, typeIs_str _ _ _, F.slot_str_getitem.lookup, fun Q E q => SB.getItem hr hin (q _ _ (Gr.tok s _ (Nat.le_succ _)) .str')⟩

/-- a part of a slice -/
def EvP (prog : Program) (w : World) (A : Around) (env : Env) (h : Heap) (e : Option Expr) (d : Option Int) : Prop :=
  ∀ (s : Shared) (Q : Value → Shared → Prop) (E : Value → Shared → Prop), Ext h s.heap → 0 < s.toks → (∀ v s', Gr s s' → (d = none ∧ v = .none ∨ ∃ i t, d = some i ∧ v = .int i t) → Q v s') → wpAny (model prog w) A (evalPart e env) Q E s
theorem EvP.none : EvP prog w A env h none none := fun s Q E _ _ q => wpAny_pure (q _ s (Gr.refl s) (.inl ⟨rfl, rfl⟩))
theorem EvP.some {e : Expr} {i : Int} (H : Ev prog w A N env h e (.int i)) : EvP prog w A env h (some e) (some i) := fun s Q E X T q =>
  wpAny_evalPart_some (H s X T _ _ fun v s₁ g r => q v s₁ g (.inr (by obtain ⟨t, rfl⟩ := Rep.int_iff.mp r; exact ⟨i, t, rfl, rfl⟩)))
end
end Mine

end

-- part Fw3
section
open PySem PySem.W PyProof.Rows
set_option Elab.async false
set_option linter.unusedVariables false
namespace Mine
section
variable {prog : Program} {w : World} {A : Around} {N : Addr → Prop} {env : Env} {h : Heap}

theorem EvP.use {e : Option Expr} {d : Option Int} (H : EvP prog w A env h e d) {s : Shared} {Q : Value → Shared → Prop} {E : Value → Shared → Prop} (X : Ext h s.heap) (T : 0 < s.toks)
    (q : ∀ v s', Gr s s' → IsPart v d → Q v s') : wpAny (model prog w) A (evalPart e env) Q E s :=
  H s Q E X T fun v s' g c => q v s' g (by rcases c with ⟨rfl, rfl⟩ | ⟨i, t, rfl, rfl⟩ <;> constructor)

theorem Ev.sliceL {v : Expr} {lo hi : Option Expr} {p q : Pos} {a b : Option Int} {ds ds' : List D} (hN : New N h) (hv : Ev prog w A N env h v (.list ds)) (hl : EvP prog w A env h lo a) (hh : EvP prog w A env h hi b) (hsz : ds.length ≤ sizeLine)
    (hc : ∀ vs : List Value, vs.length = ds.length → ∃ vs' : List Value, slicePick vs.toArray a b none = vs'.toArray ∧ ∀ h', RepL N h' ds vs → RepL N h' ds' vs')
    (ht : ∀ o r, letTemporaryGo v o r = pure () := by intro _ _; rfl) : Ev prog w A N env h (.Subscript v (.Slice lo hi none p) q) (.list ds') := fun s X T Q E k => by
  refine wpAny_Subscript_list_slice (ht := ht) (hv s X T _ _ fun o s₁ g₁ r₁ => hl.use (X.gr g₁) (Nat.lt_of_lt_of_le T g₁.toks) fun vl s₂ g₂ p₂ => hh.use (X.gr (g₁.trans g₂)) (Nat.lt_of_lt_of_le T (g₁.trans g₂).toks) fun vu s₃ g₃ p₃ => ?_)
  obtain ⟨x, vs, n, rfl, hx, hlx, rx⟩ := Rep.list_iff.mp (r₁.gr (g₂.trans g₃))
  obtain ⟨vs', e, hr⟩ := hc vs rx.length
  refine ⟨x, vs.toArray, a, b, rfl, hlx.isList, by simp [rx.length]; exact hsz, p₂, p₃, ?_⟩
  have G : Gr s₃ { s₃ with heap := (s₃.heap.push { cls := .type "slice", data := .fields #[vl, vu, .none] }).push { cls := .type "list", data := .seq (slicePick vs.toArray a b none) } } :=
    Gr.heap (Nat.le_refl _) fun b o e => Heap.get?_push_of_some _ (Heap.get?_push_of_some _ e)
  refine k _ _ (g₁.trans (g₂.trans (g₃.trans G))) (Rep.list_iff.mpr ⟨_, vs', 0, rfl, hN.at (X.gr (g₁.trans (g₂.trans g₃))) (Nat.le_succ _), ?_, (hr _ rx).gr G⟩)
  rw [← e]
  have e2 : (s₃.heap.push { cls := .type "slice", data := .fields #[vl, vu, .none] }).objs.size = s₃.heap.objs.size + 1 := Heap.size_push ..
  show IsL _ _ _ _
  rw [← e2]; exact IsL.new _ _

theorem Ev.sliceTo {v e : Expr} {p q : Pos} {k : Int} {ds : List D} (hN : New N h) (hv : Ev prog w A N env h v (.list ds)) (he : Ev prog w A N env h e (.int k)) (h0 : 0 ≤ k) (hsz : ds.length ≤ sizeLine)
    (ht : ∀ o r, letTemporaryGo v o r = pure () := by intro _ _; rfl) : Ev prog w A N env h (.Subscript v (.Slice none (some e) none p) q) (.list (ds.take k.toNat)) :=
  hv.sliceL (ht := ht) hN .none (.some he) hsz fun vs hl => ⟨vs.take k.toNat, by
    obtain ⟨n, rfl⟩ := Int.eq_ofNat_of_zero_le h0
    have := slicePick_upto' vs.toArray n
    simpa using this, fun _ r => r.take _⟩
theorem Ev.sliceFrom {v e : Expr} {p q : Pos} {k : Int} {ds : List D} (hN : New N h) (hv : Ev prog w A N env h v (.list ds)) (he : Ev prog w A N env h e (.int k)) (h0 : 0 ≤ k) (hsz : ds.length ≤ sizeLine)
    (ht : ∀ o r, letTemporaryGo v o r = pure () := by intro _ _; rfl) : Ev prog w A N env h (.Subscript v (.Slice (some e) none none p) q) (.list (ds.drop k.toNat)) :=
  hv.sliceL (ht := ht) hN (.some he) .none hsz fun vs hl => ⟨vs.drop k.toNat, by
    obtain ⟨n, rfl⟩ := Int.eq_ofNat_of_zero_le h0
    have := slicePick_from' vs.toArray n
    simpa using this, fun _ r => r.drop _⟩

theorem keptH_ext (h : Heap) : KeptH (fun h' => Ext h h') := fun h' ob k b o e => Heap.get?_push_of_some _ (k b o e)

theorem Ev.sliceSS {v lo hi : Expr} {p q : Pos} {x : Str} {i j : Int} (hv : Ev prog w A N env h v (.str x)) (hl : Ev prog w A N env h lo (.int i)) (hh : Ev prog w A N env h hi (.int j)) (hsz : x.length ≤ sizeLine)
    (ht : ∀ o r, letTemporaryGo v o r = pure () := by intro _ _; rfl) : Ev prog w A N env h (.Subscript v (.Slice (some lo) (some hi) none p) q) (.str (Txt.slice x (some i) (some j))) := fun s X T Q E k => by
  refine wpAny_with_toks (Nat.le_refl s.toks) ?_
  refine PySem.Subscript_Slice (ht := ht) (hv s X T _ _ fun o s₁ g₁ r₁ => wpAny_Slice ?_)
  obtain ⟨t, rfl⟩ := Rep.str_iff.mp r₁
  refine wpAny_evalPart_some (hl s₁ (X.gr g₁) (Nat.lt_of_lt_of_le T g₁.toks) _ _ fun vl s₂ g₂ r₂ => wpAny_evalPart_some (hh s₂ (X.gr (g₁.trans g₂)) (Nat.lt_of_lt_of_le T (g₁.trans g₂).toks) _ _ fun vu s₃ g₃ r₃ => wpAny_evalPart_none ?_))
  obtain ⟨t2, rfl⟩ := Rep.int_iff.mp r₂
  obtain ⟨t3, rfl⟩ := Rep.int_iff.mp r₃
  refine SBH.sliceItem_ss (keptH_ext s₃.heap) (fun _ _ e => e) (fun h' t' k' hx hle => ?_) hsz
  have g := g₁.trans (g₂.trans g₃)
  exact k _ _ ⟨fun b o e => hx b o (g.keep b o e), g.gens, g.os, g.drawn, hle⟩ .str'
theorem Ev.sliceNS {v hi : Expr} {p q : Pos} {x : Str} {j : Int} (hv : Ev prog w A N env h v (.str x)) (hh : Ev prog w A N env h hi (.int j)) (hsz : x.length ≤ sizeLine)
    (ht : ∀ o r, letTemporaryGo v o r = pure () := by intro _ _; rfl) : Ev prog w A N env h (.Subscript v (.Slice none (some hi) none p) q) (.str (Txt.slice x none (some j))) := fun s X T Q E k => by
  refine wpAny_with_toks (Nat.le_refl s.toks) ?_
  refine PySem.Subscript_Slice (ht := ht) (hv s X T _ _ fun o s₁ g₁ r₁ => wpAny_Slice ?_)
  obtain ⟨t, rfl⟩ := Rep.str_iff.mp r₁
  refine wpAny_evalPart_none (wpAny_evalPart_some (hh s₁ (X.gr g₁) (Nat.lt_of_lt_of_le T g₁.toks) _ _ fun vu s₃ g₃ r₃ => wpAny_evalPart_none ?_))
  obtain ⟨t3, rfl⟩ := Rep.int_iff.mp r₃
  refine SBH.sliceItem_ns (keptH_ext s₃.heap) (fun _ _ e => e) (fun h' t' k' hx hle => ?_) hsz
  have g := g₁.trans g₃
  exact k _ _ ⟨fun b o e => hx b o (g.keep b o e), g.gens, g.os, g.drawn, hle⟩ .str'

/-- methods of a str -/
theorem Ev.strip {o : Expr} {ap p : Pos} {x : Str} (ho : Ev prog w A N env h o (.str x)) (hsz : x.length ≤ sizeLine)
    (hb : attributeBase o "strip" env (eval o env) = eval o env := by rfl) (hp : (ap.endLine == p.line) = true := by rfl) : Ev prog w A N env h (.Call (.Attribute o "strip" ap) [] [] p) (.str (Txt.strip x)) := fun s X T Q E k => by
  refine wpAny_with_toks (Nat.le_refl s.toks) ?_
  refine Call_method0 hb hp (ho s X T _ _ fun v s₁ g r => ?_)
  obtain ⟨t, rfl⟩ := Rep.str_iff.mp r
  exact SB.strip (fun t' k' hle => k _ _ ⟨g.keep, g.gens, g.os, g.drawn, hle⟩ .str') hsz
theorem Ev.find {o e : Expr} {ap p : Pos} {x y : Str} (ho : Ev prog w A N env h o (.str x)) (he : Ev prog w A N env h e (.str y)) 
    (hb : attributeBase o "find" env (eval o env) = eval o env := by rfl) (hs : starEach [e] env = [(false, eval e env)] := by rfl) (hp : (ap.endLine == p.line) = true := by rfl) : Ev prog w A N env h (.Call (.Attribute o "find" ap) [e] [] p) (.int (Txt.find x y)) := fun s X T Q E k => by
  refine Call_method1 hb hs hp (ho s X T _ _ fun v s₁ g r => ?_)
  obtain ⟨t, rfl⟩ := Rep.str_iff.mp r
  refine SB.find (he s₁ (X.gr g) (Nat.lt_of_lt_of_le T g.toks) _ _ fun u s₂ g₂ r₂ => ?_)
  obtain ⟨t2, rfl⟩ := Rep.str_iff.mp r₂
  exact ⟨_, _, rfl, k _ _ (g.trans (g₂.trans (Gr.tok s₂ _ (Nat.le_succ _)))) .int'⟩
theorem Ev.count {o e : Expr} {ap p : Pos} {x y : Str} (ho : Ev prog w A N env h o (.str x)) (he : Ev prog w A N env h e (.str y)) 
    (hb : attributeBase o "count" env (eval o env) = eval o env := by rfl) (hs : starEach [e] env = [(false, eval e env)] := by rfl) (hp : (ap.endLine == p.line) = true := by rfl) : Ev prog w A N env h (.Call (.Attribute o "count" ap) [e] [] p) (.int (Txt.count x y)) := fun s X T Q E k => by
  refine Call_method1 hb hs hp (ho s X T _ _ fun v s₁ g r => ?_)
  obtain ⟨t, rfl⟩ := Rep.str_iff.mp r
  refine SB.count (he s₁ (X.gr g) (Nat.lt_of_lt_of_le T g.toks) _ _ fun u s₂ g₂ r₂ => ?_)
  obtain ⟨t2, rfl⟩ := Rep.str_iff.mp r₂
  exact ⟨_, _, rfl, k _ _ (g.trans (g₂.trans (Gr.tok s₂ _ (Nat.le_succ _)))) .int'⟩
theorem RepL.strs : ∀ {xs : List Str} {vs : List Value}, RepL N h (xs.map .str) vs → ∃ l : List (Str × Tok), l.map (·.1) = xs ∧ vs = strValues l
  | [], vs, a => ⟨[], rfl, by rw [RepL.nil_iff.mp a]; rfl⟩
  | x :: xs, vs, a => by
    obtain ⟨v, r, rfl, h1, h2⟩ := RepL.cons_iff.mp a
    obtain ⟨t, rfl⟩ := Rep.str_iff.mp h1
    obtain ⟨l, e1, e2⟩ := RepL.strs h2
    exact ⟨(x, t) :: l, by simp [e1], by simp [strValues, e2]⟩
theorem Ev.join {o e : Expr} {ap p : Pos} {x : Str} {xs : List Str} (ho : Ev prog w A N env h o (.str x)) (he : Ev prog w A N env h e (.list (xs.map .str))) (hj : JoinOk x xs = true)
    (hb : attributeBase o "join" env (eval o env) = eval o env := by rfl) (hs : starEach [e] env = [(false, eval e env)] := by rfl) (hp : (ap.endLine == p.line) = true := by rfl) : Ev prog w A N env h (.Call (.Attribute o "join" ap) [e] [] p) (.str (Txt.join x xs)) := fun s X T Q E k => by
  refine wpAny_with_toks (Nat.le_refl s.toks) ?_
  refine Call_method1 hb hs hp (ho s X T _ _ fun v s₁ g r => ?_)
  obtain ⟨t, rfl⟩ := Rep.str_iff.mp r
  refine SB.join (he s₁ (X.gr g) (Nat.lt_of_lt_of_le T g.toks) _ _ fun u s₂ g₂ r₂ => ?_)
  obtain ⟨a, vs, n, rfl, ha, hl, rl⟩ := Rep.list_iff.mp r₂
  obtain ⟨l, e1, rfl⟩ := RepL.strs rl
  have g' := g.trans g₂
  exact ⟨a, l, rfl, hl.isList, xs, e1, hj, fun t' k' hle => k _ _ ⟨g'.keep, g'.gens, g'.os, g'.drawn, hle⟩ .str'⟩
theorem Ev.replace {o : Expr} {ap p : Pos} {x y z : Str} {k1 k2 : Nat} {p1 p2 : Pos} (ho : Ev prog w A N env h o (.str x)) (hsz : x.length + (x.length + 1) * z.length ≤ 16777216) (hyz : (y == z) = false)
    (hb : attributeBase o "replace" env (eval o env) = eval o env := by rfl) (hp : (ap.endLine == p.line) = true := by rfl) :
    Ev prog w A N env h (.Call (.Attribute o "replace" ap) [.Constant (.str y) k1 p1, .Constant (.str z) k2 p2] [] p) (.str (Txt.replace x y z)) := fun s X T Q E k => by
  refine wpAny_with_toks (Nat.le_refl s.toks) ?_
  refine Call_method2 hb rfl hp (ho s X T _ _ fun v s₁ g r => ?_)
  obtain ⟨t, rfl⟩ := Rep.str_iff.mp r
  refine ⟨"str", _, F.plainAttrs_str, F.slot_str_replace, F.type_str_replace, typeIs_str _ _ _, (fun _ e => nomatch e), ?_⟩
  refine Calls.callWith_builtin rfl (Calls.evalArgs_plain (Calls.spliced_cons (wpAny_Constant_str (Calls.spliced_cons (wpAny_Constant_str (Calls.spliced_nil ?_))))))
  have T1 : 0 < s₁.toks := Nat.lt_of_lt_of_le T g.toks
  refine SC.replace (by show s₁.toks ≠ 0; omega) (by show s₁.toks + 1 ≠ 0; omega) (by show s₁.toks ≠ s₁.toks + 1; omega) hyz hsz fun t' k' hle => ?_
  exact k _ _ ⟨g.keep, g.gens, g.os, g.drawn, hle⟩ .str'

/-- the names of the module and of the built-ins -/
structure Gl (mg mb : Str → Option Value) (h : Heap) : Prop where
  g : h.Ns mainGlobals mg
  b : h.Ns builtinsNs mb
theorem Gl.ext {mg mb : Str → Option Value} {h h' : Heap} (G : Gl mg mb h) (X : Ext h h') : Gl mg mb h' := ⟨G.g.keeps X, G.b.keeps X⟩
/-- a frame of the text's own -/
structure FE (env : Env) : Prop where
  kind : env.scope.kind = .function
  glob : env.globals = mainGlobals
  bi : env.builtins = builtinsNs

variable {mg mb : Str → Option Value}
theorem name_b {s : Shared} {f id : Str} {v : Value} {p : Pos} {Q : Value → Shared → Prop} {E : Value → Shared → Prop} (F : FE env) (G : Gl mg mb s.heap) (hx : env.kindOf f = some .globalImplicit) (hm : mg f = none) (hb : mb f = some v)
    (q : Q v s) (hd : (f == ("__debug__" : Str)) = false := by decide) : wpAny (model prog w) A (eval (.Name f p) env) Q E s :=
  Calls.Name_function_global F.kind hx (Calls.loadGlobal_builtin (F.glob ▸ G.g) hm (F.bi ▸ G.b) hb q) hd
theorem name_g {s : Shared} {f : Str} {v : Value} {p : Pos} {Q : Value → Shared → Prop} {E : Value → Shared → Prop} (F : FE env) (G : Gl mg mb s.heap) (hx : env.kindOf f = some .globalImplicit) (hm : mg f = some v)
    (q : Q v s) (hd : (f == ("__debug__" : Str)) = false := by decide) : wpAny (model prog w) A (eval (.Name f p) env) Q E s :=
  Calls.Name_function_global F.kind hx (Calls.loadGlobal_global (F.glob ▸ G.g) hm q) hd

theorem Ev.callB {f : Str} {np p : Pos} {id : String} {e : Expr} {es : List Expr} {ds : List D} {d : D} (F : FE env) (G : Gl mg mb h) (hx : env.kindOf f = some .globalImplicit) (hm : mg f = none) (hb : mb f = some (.builtin id))
    (H : EvL prog w A N env h p (e :: es) ds)
    (hop : ∀ (s : Shared) (vs : List Value), Ext h s.heap → 0 < s.toks → RepL N s.heap ds vs → Gives prog w A N d (call (.builtin id) vs) s)
    (hd : (f == ("__debug__" : Str)) = false := by decide) (he : starEach (e :: es) env = (false, eval e env) :: starEach es env := by rfl) (hplain : (backTo p (starEach (e :: es) env)).any (·.1) = false := by rfl) :
    Ev prog w A N env h (.Call (.Name f np) (e :: es) [] p) d := fun s X T Q E q => by
  refine wpAny_Call_Name_kw (name_b (id := f) F (G.ext X) hx hm hb ?_ hd)
  refine Calls.callWith_builtin hplain ?_
  have H' := H s (fun vs s₁ => wpAny (model prog w) A (call (.builtin id) ([] ++ vs) []) Q E s₁) E X T fun vs s₁ g r => hop s₁ vs (X.gr g) (Nat.lt_of_lt_of_le T g.toks) r _ _ fun v s₂ g₂ r₂ => q v s₂ (g.trans g₂) r₂
  rw [he] at H' ⊢
  exact Calls.evalArgs_plain H'

theorem Ev.callF {f : Str} {np p : Pos} {a : Addr} {ob : Obj} {fd : FuncData} {e : Expr} {es : List Expr} {ds : List D} {d : D} (F : FE env) (G : Gl mg mb h) (hx : env.kindOf f = some .globalImplicit) (hm : mg f = some (.ref a))
    (ho : h.get? a = some ob) (hf : ob.data = .func fd) (H : EvL prog w A N env h p (e :: es) ds)
    (hop : ∀ (s : Shared) (vs : List Value), Ext h s.heap → 0 < s.toks → RepL N s.heap ds vs → Gives prog w A N d (call (.ref a) vs) s)
    (hd : (f == ("__debug__" : Str)) = false := by decide) (he : starEach (e :: es) env = (false, eval e env) :: starEach es env := by rfl) :
    Ev prog w A N env h (.Call (.Name f np) (e :: es) [] p) d := fun s X T Q E q => by
  refine wpAny_Call_Name_kw (name_g F (G.ext X) hx hm ?_ hd)
  refine Calls.callWith_function (o := ob) (fd := fd) ?_
  have H' := H s (fun vs s₁ => (s₁.heap.get? a = some ob ∧ ob.data = .func fd) ∧ wpAny (model prog w) A (call (.ref a) ([] ++ vs) []) Q E s₁) E X T fun vs s₁ g r =>
    ⟨⟨X.gr g _ _ ho, hf⟩, hop s₁ vs (X.gr g) (Nat.lt_of_lt_of_le T g.toks) r _ _ fun v s₂ g₂ r₂ => q v s₂ (g.trans g₂) r₂⟩
  rw [he] at H' ⊢
  exact Calls.evalArgs_plain H'
theorem Ev.callF0 {f : Str} {np p : Pos} {a : Addr} {ob : Obj} {fd : FuncData} {d : D} (F : FE env) (G : Gl mg mb h) (hx : env.kindOf f = some .globalImplicit) (hm : mg f = some (.ref a))
    (ho : h.get? a = some ob) (hf : ob.data = .func fd)
    (hop : ∀ (s : Shared), Ext h s.heap → 0 < s.toks → Gives prog w A N d (call (.ref a) []) s)
    (hd : (f == ("__debug__" : Str)) = false := by decide) :
    Ev prog w A N env h (.Call (.Name f np) [] [] p) d := fun s X T Q E q => by
  refine wpAny_Call_Name_kw (name_g F (G.ext X) hx hm ?_ hd)
  exact Calls.callWith_function (o := ob) (fd := fd) (evalArgs_nil3 ⟨⟨X _ _ ho, hf⟩, hop s X T _ _ q⟩)

theorem Gives.lenS {s : Shared} {x : Str} {vs : List Value} (r : RepL N s.heap [.str x] vs) (hsz : x.length ≤ sizeLine) : Gives prog w A N (.int x.length) (call (.builtin "len") vs) s := fun Q E q => by
  obtain ⟨v, _, rfl, h1, h2⟩ := RepL.cons_iff.mp r
  rw [RepL.nil_iff.mp h2]
  obtain ⟨t, rfl⟩ := Rep.str_iff.mp h1
  exact P.len_str (by rw [sizeLine_eq] at hsz; omega) (q _ _ (Gr.tok s _ (by omega)) .int')
theorem RepL.one {d : D} {vs : List Value} (r : RepL N h [d] vs) : ∃ v, vs = [v] ∧ Rep N h d v := by
  obtain ⟨v, _, rfl, h1, h2⟩ := RepL.cons_iff.mp r
  rw [RepL.nil_iff.mp h2]; exact ⟨v, rfl, h1⟩
theorem RepL.two {d e : D} {vs : List Value} (r : RepL N h [d, e] vs) : ∃ v u, vs = [v, u] ∧ Rep N h d v ∧ Rep N h e u := by
  obtain ⟨v, _, rfl, h1, h2⟩ := RepL.cons_iff.mp r
  obtain ⟨u, rfl, h3⟩ := RepL.one h2
  exact ⟨v, u, rfl, h1, h3⟩
theorem RepL.three {d e f : D} {vs : List Value} (r : RepL N h [d, e, f] vs) : ∃ v u x, vs = [v, u, x] ∧ Rep N h d v ∧ Rep N h e u ∧ Rep N h f x := by
  obtain ⟨v, _, rfl, h1, h2⟩ := RepL.cons_iff.mp r
  obtain ⟨u, x, rfl, h3, h4⟩ := RepL.two h2
  exact ⟨v, u, x, rfl, h1, h3, h4⟩
theorem fit_len {n : Nat} (hsz : n ≤ sizeLine) : ¬ (n : Int) ≥ 2 ^ 63 := by rw [sizeLine_eq] at hsz; omega
theorem Gives.lenScript {s : Shared} {x : List Int} {vs : List Value} (r : RepL N s.heap [.script x] vs) (hsz : x.length ≤ sizeLine) : Gives prog w A N (.int x.length) (call (.builtin "len") vs) s := fun Q E q => by
  obtain ⟨v, rfl, h1⟩ := r.one
  obtain ⟨a, us, rfl, ha, hl, hi⟩ := Rep.script_iff.mp h1
  have e : us.toArray.size = x.length := by simp [hi.length]
  refine Calls.call_len_list hl (by rw [e]; exact Int.not_le.mp (fit_len hsz)) ?_
  rw [e]; exact q _ _ (Gr.tok s _ (by omega)) .int'
theorem Gives.lenL {s : Shared} {x : List D} {vs : List Value} (r : RepL N s.heap [.list x] vs) (hsz : x.length ≤ sizeLine) : Gives prog w A N (.int x.length) (call (.builtin "len") vs) s := fun Q E q => by
  obtain ⟨v, rfl, h1⟩ := r.one
  obtain ⟨a, us, n, rfl, ha, hl, hi⟩ := Rep.list_iff.mp h1
  have e : us.toArray.size = x.length := by simp [hi.length]
  refine Calls.call_len_list hl.isList (by rw [e]; exact Int.not_le.mp (fit_len hsz)) ?_
  rw [e]; exact q _ _ (Gr.tok s _ (by omega)) .int'

/-- ints in a list, of whichever kind -/
def IsInts (N : Addr → Prop) (h : Heap) (ns : List Int) (v : Value) : Prop := ∃ l vs, v = .ref l ∧ h.IsList l vs.toArray ∧ IntsAre vs ns
theorem IsInts.ofL {ns : List Int} {v : Value} (r : Rep N h (.list (ns.map .int)) v) : IsInts N h ns v := by
  obtain ⟨a, us, n, rfl, ha, hl, hi⟩ := Rep.list_iff.mp r
  exact ⟨a, us, rfl, hl.isList, hi.ints⟩
theorem IsInts.ofScript {ns : List Int} {v : Value} (r : Rep N h (.script ns) v) : IsInts N h ns v := by
  obtain ⟨a, us, rfl, ha, hl, hi⟩ := Rep.script_iff.mp r
  exact ⟨a, us, rfl, hl, hi⟩
theorem Gives.sum {s : Shared} {ns : List Int} {v : Value} (hh : A.handled = none) (r : IsInts N s.heap ns v) : Gives prog w A N (.int ns.sum) (call (.builtin "sum") [v]) s := .tk fun Q E q => by
  obtain ⟨l, vs, rfl, hl, hi⟩ := r
  obtain ⟨xs, e⟩ := hi.allInts.items
  have hns : ns = xs.toList.map (·.1) := by rw [← hi.numsOf, ← nums_intItems, ← e]
  rw [e] at hl
  refine sum_intListG hh hl fun h' tk t' hk => q _ _ fun hle => ⟨Gr.heap hle hk, ?_⟩
  rw [preSum_eq, List.take_of_length_le (by simp), hns]
  exact .int'
theorem Gives.max2 {s : Shared} {a b : Int} {vs : List Value} (hh : A.handled = none) (r : RepL N s.heap [.int a, .int b] vs) : Gives prog w A N (.int (if b > a then b else a)) (call (.builtin "max") vs) s := .tk fun Q E q => by
  obtain ⟨v, u, rfl, h1, h2⟩ := r.two
  obtain ⟨t, rfl⟩ := Rep.int_iff.mp h1
  obtain ⟨t', rfl⟩ := Rep.int_iff.mp h2
  refine max_two_ints hh fun h' tk hk => q _ _ fun hle => ⟨Gr.heap hle hk, ?_⟩
  split <;> exact .int'
theorem Gives.min2 {s : Shared} {a b : Int} {vs : List Value} (hh : A.handled = none) (r : RepL N s.heap [.int a, .int b] vs) : Gives prog w A N (.int (if b < a then b else a)) (call (.builtin "min") vs) s := .tk fun Q E q => by
  obtain ⟨v, u, rfl, h1, h2⟩ := r.two
  obtain ⟨t, rfl⟩ := Rep.int_iff.mp h1
  obtain ⟨t', rfl⟩ := Rep.int_iff.mp h2
  refine min_two_ints hh fun h' tk hk => q _ _ fun hle => ⟨Gr.heap hle hk, ?_⟩
  split <;> exact .int'
theorem Gives.maxL {s : Shared} {ns : List Int} {m : Int} {v : Value} (hh : A.handled = none) (r : IsInts N s.heap ns v) (h1 : m ∈ ns) (h2 : ∀ a ∈ ns, a ≤ m) : Gives prog w A N (.int m) (call (.builtin "max") [v]) s := .tk fun Q E q => by
  obtain ⟨l, vs, rfl, hl, hi⟩ := r
  obtain ⟨xs, e⟩ := hi.allInts.items
  have hns : ns = xs.toList.map (·.1) := by rw [← hi.numsOf, ← nums_intItems, ← e]
  have hsz : 0 < xs.size := by
    have h3 : 0 < ns.length := List.length_pos_of_mem h1
    rw [hns, List.length_map, Array.length_toList] at h3; exact h3
  rw [e] at hl
  refine max_intList hh hl hsz fun v h' tk hv hk => q _ _ fun hle => ⟨Gr.heap hle hk, ?_⟩
  obtain ⟨t, rfl⟩ := intItems_at hv
  obtain ⟨g1, g2⟩ := argBest_gt (numAt xs) (xs.size - 1)
  have hm : numAt xs (argBest (fun i j => decide (numAt xs i > numAt xs j)) (xs.size - 1)) = m := by
    refine Int.le_antisymm (h2 _ ?_) ?_
    · rw [hns, numAt_eq]; exact getD_mem (by rw [List.length_map, Array.length_toList]; omega)
    · rw [hns] at h1
      obtain ⟨j, hj, rfl⟩ := mem_getD h1
      rw [List.length_map, Array.length_toList] at hj
      rw [← numAt_eq]; exact g2 j (by omega)
  rw [hm]; exact .int'
theorem Gives.sorted {s : Shared} {ns srt : List Int} {v : Value} (hN : New N s.heap) (r : IsInts N s.heap ns v) (h64 : ns.length < 64) (hp : srt.Perm ns) (ho : srt.Pairwise (· ≤ ·)) : Gives prog w A N (.list (srt.map .int)) (call (.builtin "sorted") [v]) s := fun Q E q => by
  obtain ⟨l, vs, rfl, hl, hi⟩ := r
  refine sorted_ints hl hi (by rw [hi.length]; exact h64) fun out ns' a1 a2 a3 => ?_
  have e : ns' = srt := lks_uniq (a2.trans hp.symm) a3 ho
  subst e
  obtain ⟨ep, he⟩ := sortedAll_at s.heap vs out
  refine q _ _ (Gr.heap (Nat.le_refl _) fun _ _ => sortedAll_old) (Rep.list_iff.mpr ⟨_, out.toList, ep, rfl, hN.at (fun _ _ e => e) (Nat.le_succ _), ?_, RepL.ofInts a1⟩)
  simpa using he
end
end Mine

end

-- part Fw4
section
open PySem PySem.W PyProof.Rows
set_option Elab.async false
set_option linter.unusedVariables false
namespace Mine

/-- the data of the names, and of the lists that the frame may still change -/
abbrev Vars := Str → Option D
abbrev Accs := List (Str × List D)
def Vars.put (ρ : Vars) (x : Str) (d : D) : Vars := fun y => if y = x then some d else ρ y
def Vars.del (ρ : Vars) (x : Str) : Vars := fun y => if y = x then none else ρ y
def Accs.del (ac : Accs) (x : Str) : Accs := ac.filter fun e => e.1 != x
def Accs.put (ac : Accs) (x : Str) (ds : List D) : Accs := ac.map fun e => if e.1 = x then (x, ds) else e

/-- the cells that a frame may set: a comprehension's are not its own -/
def mcells (env : Env) : List (Str × Addr) := if env.func.isSome then env.cells else []
theorem mcells_sub {env : Env} {c : Str × Addr} (h : c ∈ mcells env) : c ∈ env.cells := by
  unfold mcells at h; split at h
  · exact h
  · cases h
theorem mem_mcells {env : Env} {c : Str × Addr} (hf : env.func.isSome = true) (h : c ∈ env.cells) : c ∈ mcells env := by unfold mcells; rw [if_pos hf]; exact h

/-- what a frame may change -/
def Mut (env : Env) (ad : Str → Addr) (ac : Accs) (b : Addr) : Prop := b = env.locals ∨ (∃ c ∈ mcells env, b = c.2) ∨ ∃ e ∈ ac, b = ad e.1

structure FSN (env : Env) (Bk : Addr → Obj → Prop) (Z N₀ N : Addr → Prop) (ad : Str → Addr) (ρ : Vars) (ac : Accs) (h : Heap) : Prop where
  kind : env.scope.kind = .function
  sub : ∀ a, N a → N₀ a ∧ ¬ Z a ∧ ¬ Mut env ad ac a
  new : New N h
  keep : ∀ a o, Bk a o → h.get? a = some o
  off : ∀ a o, Bk a o → ¬ Mut env ad ac a
  ns : ∃ m, h.Ns env.locals m
  cells : ∀ c ∈ env.cells, ∃ v, h.IsCell c.2 v
  apart : (mcells env).Pairwise fun x y => x.2 ≠ y.2
  lcell : ∀ c ∈ env.cells, c.2 ≠ env.locals
  vars : ∀ x d, ρ x = some d → ∃ v, Has env h x v ∧ Rep N h d v
  accs : ∀ e ∈ ac, (e.1 ≠ "" → Has env h e.1 (.ref (ad e.1))) ∧ ∃ vs n, IsL h (ad e.1) vs.toArray n ∧ RepL N h e.2 vs
  aoff : ∀ e ∈ ac, ad e.1 ≠ env.locals ∧ ∀ c ∈ env.cells, c.2 ≠ ad e.1
  aapart : ∀ e ∈ ac, ∀ f ∈ ac, e.1 ≠ f.1 → ad e.1 ≠ ad f.1
  aone : ∀ e ∈ ac, ∀ f ∈ ac, e.1 = f.1 → e = f
  anew : ∀ e ∈ ac, ∀ a, a = ad e.1 → N₀ a ∧ ¬ Z a

def FS (env : Env) (Bk : Addr → Obj → Prop) (Z N₀ : Addr → Prop) (ρ : Vars) (ac : Accs) (h : Heap) : Prop := ∃ N ad, FSN env Bk Z N₀ N ad ρ ac h

theorem Has.keeps {env : Env} {h h' : Heap} {x : Str} {v : Value} (H : Has env h x v) (X : Ext h h') : Has env h' x v := by
  cases H with
  | loc a b c => exact .loc a (b.keeps X) c
  | cell a b c => exact .cell a b (c.keeps X)

section
variable {env : Env} {Bk : Addr → Obj → Prop} {Z N₀ N : Addr → Prop} {ad : Str → Addr} {ρ : Vars} {ac : Accs} {h h' : Heap}

/-- the heap grows: all stays -/
theorem FSN.grow (F : FSN env Bk Z N₀ N ad ρ ac h) (X : Ext h h') : FSN env Bk Z N₀ N ad ρ ac h' where
  kind := F.kind
  sub := F.sub
  new := fun a ha => F.new a <| by
    cases e : h.get? a with
    | none => rfl
    | some o => rw [X _ _ e] at ha; cases ha
  keep := fun a o b => X _ _ (F.keep a o b)
  off := F.off
  ns := let ⟨m, hm⟩ := F.ns; ⟨m, hm.keeps X⟩
  cells := fun c hc => let ⟨v, hv⟩ := F.cells c hc; ⟨v, hv.keeps X⟩
  apart := F.apart
  lcell := F.lcell
  vars := fun x d e => let ⟨v, a, b⟩ := F.vars x d e; ⟨v, a.keeps X, b.map fun _ _ hb e => ⟨hb, X _ _ e⟩⟩
  accs := fun e he => let ⟨a, vs, n, b, c⟩ := F.accs e he; ⟨fun q => (a q).keeps X, vs, n, X _ _ b, c.map fun _ _ hb e => ⟨hb, X _ _ e⟩⟩
  aoff := F.aoff
  aapart := F.aapart
  aone := F.aone
  anew := F.anew

theorem FSN.ev {prog : Program} {w : World} {A : Around} (F : FSN env Bk Z N₀ N ad ρ ac h) {x : Str} {d : D} {p : Pos} (e : ρ x = some d) (hd : (x == ("__debug__" : Str)) = false := by decide) : Ev prog w A N env h (.Name x p) d := by
  obtain ⟨v, H, R⟩ := F.vars x d e
  exact Ev.name F.kind H R hd

/-- one object changes: one that no data, no guarded object, no other part of the frame lies in -/
theorem FSN.cellSet {x : Str} {c : Addr} {v : Value} (F : FSN env Bk Z N₀ N ad ρ ac h) (hfn : env.func.isSome = true) (hl : env.kindOf x = some .cell) (hc : env.cells.lookup x = some c) (hv : h'.IsCell c (some v)) (hs : Heap.SameBut c h h') :
    FSN env Bk Z N₀ N ad (ρ.del x) (ac.del x) h' ∧ (∀ d v, Rep N h d v → Rep N h' d v) := by
  have hm : (x, c) ∈ env.cells := mem_of_lookup hc
  have hcl : c ≠ env.locals := F.lcell _ hm
  have hN : ∀ a, N a → a ≠ c := fun a ha e => (F.sub a ha).2.2 (.inr (.inl ⟨_, mem_mcells hfn hm, e⟩))
  have up : ∀ d v, Rep N h d v → Rep N h' d v := fun d v r => r.map fun b o hb e => ⟨hb, (hs.2 b (hN b hb)).trans e⟩
  have upL : ∀ d v, RepL N h d v → RepL N h' d v := fun d v r => r.map fun b o hb e => ⟨hb, (hs.2 b (hN b hb)).trans e⟩
  have other : ∀ y u, y ≠ x → Has env h y u → Has env h' y u := fun y u hy H => by
    cases H with
    | loc a b e => exact .loc a (b.sameBut hs (Ne.symm hcl)) e
    | cell a b e =>
      rename_i c'
      refine .cell a b (e.sameBut hs fun e' => hy ?_)
      exact name_of_addr F.apart (mem_mcells hfn (mem_of_lookup b)) (by rw [e']; exact mem_mcells hfn hm)
  have acs : ∀ e ∈ ac.del x, e ∈ ac ∧ e.1 ≠ x := fun e he => by
    have := List.mem_filter.mp he
    exact ⟨this.1, by simpa using this.2⟩
  refine ⟨?_, up⟩
  refine ⟨F.kind, fun a ha => ⟨(F.sub a ha).1, (F.sub a ha).2.1, fun hM => (F.sub a ha).2.2 ?_⟩, fun a ha => F.new a ?_, fun a o b => (hs.2 a ?_).trans (F.keep a o b), fun a o b hM => F.off a o b ?_, ?_, fun c' hc' => ?_, F.apart, F.lcell, fun y d' e => ?_, fun e he => ?_,
    fun e he => F.aoff e (acs e he).1, fun e he f hf => F.aapart e (acs e he).1 f (acs f hf).1, fun e he f hf => F.aone e (acs e he).1 f (acs f hf).1, fun e he => F.anew e (acs e he).1⟩
  · rcases hM with e | e | ⟨e, he, e'⟩
    · exact .inl e
    · exact .inr (.inl e)
    · exact .inr (.inr ⟨e, (acs e he).1, e'⟩)
  · by_cases e : a = c
    · subst e
      obtain ⟨o, ho, _⟩ := hv
      rw [ho] at ha; cases ha
    · rw [← hs.2 a e]; exact ha
  · intro e; exact F.off a o b (.inr (.inl ⟨_, mem_mcells hfn hm, e⟩))
  · rcases hM with e | e | ⟨e, he, e'⟩
    · exact .inl e
    · exact .inr (.inl e)
    · exact .inr (.inr ⟨e, (acs e he).1, e'⟩)
  · obtain ⟨m, hn⟩ := F.ns
    exact ⟨m, hn.sameBut hs (Ne.symm hcl)⟩
  · by_cases e : c'.2 = c
    · rw [e]; exact ⟨_, hv⟩
    · obtain ⟨v', hv'⟩ := F.cells c' hc'
      exact ⟨v', hv'.sameBut hs e⟩
  · unfold Vars.del at e
    by_cases hy : y = x
    · rw [if_pos hy] at e; cases e
    · rw [if_neg hy] at e
      obtain ⟨u, a, b⟩ := F.vars y d' e
      exact ⟨u, other y u hy a, up _ _ b⟩
  · obtain ⟨he, hy⟩ := acs e he
    obtain ⟨a, vs, n, b, c'⟩ := F.accs e he
    refine ⟨fun q => other _ _ hy (a q), vs, n, (hs.2 _ ?_).trans b, upL _ _ c'⟩
    exact fun e' => (F.aoff e he).2 _ hm e'.symm

theorem FSN.nsSet {x : Str} {v : Value} {m : Str → Option Value} (F : FSN env Bk Z N₀ N ad ρ ac h) (hl : env.kindOf x = some .local) (hn : h.Ns env.locals m) (hn' : h'.Ns env.locals (fun y => if y = x then some v else m y)) (hs : Heap.SameBut env.locals h h') :
    FSN env Bk Z N₀ N ad (ρ.del x) (ac.del x) h' ∧ (∀ d v, Rep N h d v → Rep N h' d v) := by
  have hN : ∀ a, N a → a ≠ env.locals := fun a ha e => (F.sub a ha).2.2 (.inl e)
  have up : ∀ d v, Rep N h d v → Rep N h' d v := fun d v r => r.map fun b o hb e => ⟨hb, (hs.2 b (hN b hb)).trans e⟩
  have upL : ∀ d v, RepL N h d v → RepL N h' d v := fun d v r => r.map fun b o hb e => ⟨hb, (hs.2 b (hN b hb)).trans e⟩
  have other : ∀ y u, y ≠ x → Has env h y u → Has env h' y u := fun y u hy H => by
    cases H with
    | loc a b e =>
      refine .loc a hn' ?_
      rw [if_neg hy]
      rename_i m'
      obtain ⟨o, es, ep, h1, h2, h3, h4⟩ := b
      obtain ⟨o', es', ep', g1, g2, g3, g4⟩ := hn
      rw [h1] at g1; cases g1
      rw [h2] at g2; cases g2
      rw [← g4, h4]; exact e
    | cell a b e => exact .cell a b (e.sameBut hs (F.lcell _ (mem_of_lookup b)))
  have acs : ∀ e ∈ ac.del x, e ∈ ac ∧ e.1 ≠ x := fun e he => by
    have := List.mem_filter.mp he
    exact ⟨this.1, by simpa using this.2⟩
  refine ⟨?_, up⟩
  refine ⟨F.kind, fun a ha => ⟨(F.sub a ha).1, (F.sub a ha).2.1, fun hM => (F.sub a ha).2.2 ?_⟩, fun a ha => F.new a ?_, fun a o b => (hs.2 a ?_).trans (F.keep a o b), fun a o b hM => F.off a o b ?_, ⟨_, hn'⟩, fun c' hc' => ?_, F.apart, F.lcell, fun y d' e => ?_, fun e he => ?_,
    fun e he => F.aoff e (acs e he).1, fun e he f hf => F.aapart e (acs e he).1 f (acs f hf).1, fun e he f hf => F.aone e (acs e he).1 f (acs f hf).1, fun e he => F.anew e (acs e he).1⟩
  · rcases hM with e | e | ⟨e, he, e'⟩
    · exact .inl e
    · exact .inr (.inl e)
    · exact .inr (.inr ⟨e, (acs e he).1, e'⟩)
  · by_cases e : a = env.locals
    · subst e
      obtain ⟨o, _, _, ho, _⟩ := hn'
      rw [ho] at ha; cases ha
    · rw [← hs.2 a e]; exact ha
  · intro e; exact F.off a o b (.inl e)
  · rcases hM with e | e | ⟨e, he, e'⟩
    · exact .inl e
    · exact .inr (.inl e)
    · exact .inr (.inr ⟨e, (acs e he).1, e'⟩)
  · obtain ⟨v', hv'⟩ := F.cells c' hc'
    exact ⟨v', hv'.sameBut hs (F.lcell _ hc')⟩
  · unfold Vars.del at e
    by_cases hy : y = x
    · rw [if_pos hy] at e; cases e
    · rw [if_neg hy] at e
      obtain ⟨u, a, b⟩ := F.vars y d' e
      exact ⟨u, other y u hy a, up _ _ b⟩
  · obtain ⟨he, hy⟩ := acs e he
    obtain ⟨a, vs, n, b, c'⟩ := F.accs e he
    exact ⟨fun q => other _ _ hy (a q), vs, n, (hs.2 _ (F.aoff e he).1).trans b, upL _ _ c'⟩

theorem FSN.put {x : Str} {d : D} {v : Value} (F : FSN env Bk Z N₀ N ad (ρ.del x) ac h) (H : Has env h x v) (r : Rep N h d v) : FSN env Bk Z N₀ N ad (ρ.put x d) ac h := by
  have hv : ∀ y d', (ρ.put x d) y = some d' → ∃ u, Has env h y u ∧ Rep N h d' u := fun y d' e => by
    unfold Vars.put at e
    by_cases hy : y = x
    · subst hy
      rw [if_pos rfl] at e; cases e
      exact ⟨v, H, r⟩
    · rw [if_neg hy] at e
      exact F.vars y d' (by unfold Vars.del; rw [if_neg hy]; exact e)
  exact { F with vars := hv }

/-- a name's kinds -/
def Own (env : Env) (x : Str) : Prop := env.kindOf x = some .local ∨ (env.kindOf x = some .cell ∧ env.func.isSome = true ∧ ∃ c, env.cells.lookup x = some c)

/-- the machine but for its heap -/
structure Sm (s s' : Shared) : Prop where
  gens : Gens s'.gens s.gens
  os : s'.os = s.os
  drawn : s'.drawn = s.drawn
  toks : s.toks ≤ s'.toks
theorem Gr.sm {s s' : Shared} (g : Gr s s') : Sm s s' := ⟨g.gens, g.os, g.drawn, g.toks⟩
theorem Sm.refl (s : Shared) : Sm s s := ⟨.refl _, rfl, rfl, Nat.le_refl _⟩
theorem Sm.trans {a b c : Shared} (x : Sm a b) (y : Sm b c) : Sm a c := ⟨y.gens.trans x.gens, y.os.trans x.os, y.drawn.trans x.drawn, Nat.le_trans x.toks y.toks⟩
theorem Sm.pos {a b : Shared} (x : Sm a b) (T : 0 < a.toks) : 0 < b.toks := Nat.lt_of_lt_of_le T x.toks

theorem FSN.store0 {M : Model} {A : Around} {E : Value → Shared → Prop} {s : Shared} {x : Str} {v : Value} {Q : Unit → Shared → Prop} (F : FSN env Bk Z N₀ N ad ρ ac s.heap) (hx : Own env x)
    (q : ∀ s' b, Sm s s' → Mut env ad [] b → Heap.SameBut b s.heap s'.heap → FSN env Bk Z N₀ N ad (ρ.del x) (ac.del x) s'.heap → Has env s'.heap x v → (∀ d v, Rep N s.heap d v → Rep N s'.heap d v) → Q () s') : wpAny M A (storeName env x v) Q E s := by
  rcases hx with hl | ⟨hl, hfn, c, hc⟩
  · obtain ⟨m, hn⟩ := F.ns
    refine wpAny_storeName_local hl hn (fun h' hn' hs' => ?_) (by rw [F.kind]; rfl)
    have g := F.nsSet (v := v) hl hn hn' hs'
    exact q _ _ ⟨.refl _, rfl, rfl, Nat.le_succ _⟩ (.inl rfl) hs' g.1 (.loc hl hn' (by rw [if_pos rfl])) g.2
  · obtain ⟨v0, hv0⟩ := F.cells _ (mem_of_lookup hc)
    refine wpAny_storeName_cell F.kind hl hc hv0 fun h' hv' hs' => ?_
    have g := F.cellSet (v := v) hfn hl hc hv' hs'
    exact q _ _ ⟨.refl _, rfl, rfl, Nat.le_refl _⟩ (.inr (.inl ⟨_, mem_mcells hfn (mem_of_lookup hc), rfl⟩)) hs' g.1 (.cell hl hc hv') g.2

theorem FSN.store {M : Model} {A : Around} {E : Value → Shared → Prop} {s : Shared} {x : Str} {v : Value} {d : D} {Q : Unit → Shared → Prop} (F : FSN env Bk Z N₀ N ad ρ ac s.heap) (hx : Own env x) (r : Rep N s.heap d v)
    (q : ∀ s', Sm s s' → FSN env Bk Z N₀ N ad (ρ.put x d) (ac.del x) s'.heap → (∀ d v, Rep N s.heap d v → Rep N s'.heap d v) → Q () s') : wpAny M A (storeName env x v) Q E s :=
  F.store0 hx fun s' _ m _ _ F' H' k => q s' m (F'.put H' (k _ _ r)) k

/-- forbid an address that is no data's -/
theorem FSN.narrow (F : FSN env Bk Z N₀ N ad ρ ac h) {P : Addr → Prop} (hP : ∀ a, h.get? a ≠ none → N a → P a) (hnew : ∀ a, h'.get? a = none → P a) (X : Ext h h') : FSN env Bk Z N₀ (fun a => N a ∧ P a) ad ρ ac h' := by
  have live : ∀ d v, Rep N h d v → Rep (fun a => N a ∧ P a) h' d v := fun d v r => r.map fun b o hb e => ⟨⟨hb, hP b (by rw [e]; exact Option.some_ne_none _) hb⟩, X _ _ e⟩
  have liveL : ∀ d v, RepL N h d v → RepL (fun a => N a ∧ P a) h' d v := fun d v r => r.map fun b o hb e => ⟨⟨hb, hP b (by rw [e]; exact Option.some_ne_none _) hb⟩, X _ _ e⟩
  have F' := F.grow X
  exact { F' with
    sub := fun a ha => F.sub a ha.1
    new := fun a ha => ⟨F'.new a ha, hnew a ha⟩
    vars := fun x d e => let ⟨v, a, b⟩ := F.vars x d e; ⟨v, a.keeps X, live _ _ b⟩
    accs := fun e he => let ⟨a, vs, n, b, c⟩ := F.accs e he; ⟨fun q => (a q).keeps X, vs, n, X _ _ b, liveL _ _ c⟩ }
end
end Mine

end

-- part Fw5
section
open PySem PySem.W PyProof.Rows
set_option Elab.async false
set_option linter.unusedVariables false
namespace Mine
theorem Has.same {env : Env} {h h' : Heap} {x : Str} {v : Value} {b : Addr} (H : Has env h x v) (hs : Heap.SameBut b h h') (hl : b ≠ env.locals) (hc : ∀ c ∈ env.cells, c.2 ≠ b) : Has env h' x v := by
  cases H with
  | loc a b e => exact .loc a (b.sameBut hs (Ne.symm hl)) e
  | cell a b e => exact .cell a b (e.sameBut hs (hc _ (mem_of_lookup b)))
theorem Has.load {env : Env} {h : Heap} {x : Str} {v : Value} {M : Model} {A : Around} {s : Shared} {p : Pos} {Q : Value → Shared → Prop} {E : Value → Shared → Prop} (hk : env.scope.kind = .function) (H : Has env h x v) (X : Ext h s.heap) (q : Q v s) (hd : (x == ("__debug__" : Str)) = false := by decide) :
    wpAny M A (eval (.Name x p) env) Q E s := by
  cases H with
  | loc hl hn hv => exact wpAny_Name (wpAny_loadName_local hk hl (hn.keeps X) hv q) hd
  | cell hl hc hv => exact wpAny_Name (wpAny_loadName_cell hk hl hc (hv.keeps X) q) hd

theorem Ext.refl (h : Heap) : Ext h h := fun _ _ e => e
theorem live_ne {h : Heap} {a : Addr} {o : Obj} (e : h.get? a = some o) : a ≠ h.objs.size := Nat.ne_of_lt (Heap.lt_size e)

section
variable {env : Env} {Bk : Addr → Obj → Prop} {Z N₀ N : Addr → Prop} {ad : Str → Addr} {ρ : Vars} {ac : Accs} {h h' : Heap}

theorem FSN.llive (F : FSN env Bk Z N₀ N ad ρ ac h) {b : Addr} (hb : Mut env ad [] b) : ∃ o, h.get? b = some o := by
  rcases hb with rfl | ⟨c, hc, rfl⟩ | ⟨e, he, _⟩
  · obtain ⟨m, o, _, _, ho, _⟩ := F.ns; exact ⟨o, ho⟩
  · obtain ⟨v, o, ho, _⟩ := F.cells c (mcells_sub hc); exact ⟨o, ho⟩
  · cases he
theorem Mut.more {b : Addr} (hb : Mut env ad [] b) : Mut env ad ac b := by
  rcases hb with e | e | ⟨e, he, _⟩
  · exact .inl e
  · exact .inr (.inl e)
  · cases he

theorem FSN.addAcc {x : Str} {a : Addr} {ds : List D} {vs : List Value} {n : Nat} (F : FSN env Bk Z N₀ N ad ρ ac h) (H : x ≠ "" → Has env h x (.ref a)) (hl : IsL h a vs.toArray n) (r : RepL N h ds vs) (hN : ¬ N a) (h1 : a ≠ env.locals)
    (h2 : ∀ c ∈ env.cells, c.2 ≠ a) (h3 : ∀ e ∈ ac, e.1 ≠ x ∧ ad e.1 ≠ a) (h4 : ∀ b o, Bk b o → b ≠ a) (h5 : N₀ a ∧ ¬ Z a) : FSN env Bk Z N₀ N (fun y => if y = x then a else ad y) ρ ((x, ds) :: ac) h := by
  have ax : (fun y => if y = x then a else ad y) x = a := if_pos rfl
  have ao : ∀ e ∈ ac, (fun y => if y = x then a else ad y) e.1 = ad e.1 := fun e he => if_neg (h3 e he).1
  have mu : ∀ b, Mut env (fun y => if y = x then a else ad y) ((x, ds) :: ac) b → b = a ∨ Mut env ad ac b := fun b hb => by
    rcases hb with e | e | ⟨e, he, e'⟩
    · exact .inr (.inl e)
    · exact .inr (.inr (.inl e))
    · rcases List.mem_cons.mp he with rfl | he
      · exact .inl (e'.trans ax)
      · exact .inr (.inr (.inr ⟨e, he, e'.trans (ao e he)⟩))
  have s1 : ∀ b, N b → N₀ b ∧ ¬ Z b ∧ ¬ Mut env (fun y => if y = x then a else ad y) ((x, ds) :: ac) b := fun b hb =>
    ⟨(F.sub b hb).1, (F.sub b hb).2.1, fun hM => (mu b hM).elim (fun e => hN (e ▸ hb)) (F.sub b hb).2.2⟩
  have s2 : ∀ b o, Bk b o → ¬ Mut env (fun y => if y = x then a else ad y) ((x, ds) :: ac) b := fun b o hb hM => (mu b hM).elim (h4 b o hb) (F.off b o hb)
  have s3 : ∀ e ∈ (x, ds) :: ac, (e.1 ≠ "" → Has env h e.1 (.ref ((fun y => if y = x then a else ad y) e.1))) ∧ ∃ vs n, IsL h ((fun y => if y = x then a else ad y) e.1) vs.toArray n ∧ RepL N h e.2 vs := fun e he => by
    rcases List.mem_cons.mp he with rfl | he
    · rw [ax]; exact ⟨H, vs, n, hl, r⟩
    · rw [ao e he]; exact F.accs e he
  have s4 : ∀ e ∈ (x, ds) :: ac, (fun y => if y = x then a else ad y) e.1 ≠ env.locals ∧ ∀ c ∈ env.cells, c.2 ≠ (fun y => if y = x then a else ad y) e.1 := fun e he => by
    rcases List.mem_cons.mp he with rfl | he
    · rw [ax]; exact ⟨h1, h2⟩
    · rw [ao e he]; exact F.aoff e he
  have s5 : ∀ e ∈ (x, ds) :: ac, ∀ f ∈ (x, ds) :: ac, e.1 ≠ f.1 → (fun y => if y = x then a else ad y) e.1 ≠ (fun y => if y = x then a else ad y) f.1 := fun e he f hf hne => by
    rcases List.mem_cons.mp he with rfl | he <;> rcases List.mem_cons.mp hf with rfl | hf
    · exact absurd rfl hne
    · rw [ax, ao f hf]; exact fun e' => (h3 f hf).2 e'.symm
    · rw [ax, ao e he]; exact (h3 e he).2
    · rw [ao e he, ao f hf]; exact F.aapart e he f hf hne
  have s6 : ∀ e ∈ (x, ds) :: ac, ∀ f ∈ (x, ds) :: ac, e.1 = f.1 → e = f := fun e he f hf heq => by
    rcases List.mem_cons.mp he with rfl | he <;> rcases List.mem_cons.mp hf with rfl | hf
    · rfl
    · exact absurd heq.symm (h3 f hf).1
    · exact absurd heq (h3 e he).1
    · exact F.aone e he f hf heq
  have s7 : ∀ e ∈ (x, ds) :: ac, ∀ b, b = (fun y => if y = x then a else ad y) e.1 → N₀ b ∧ ¬ Z b := fun e he b hb => by
    rcases List.mem_cons.mp he with rfl | he
    · rw [hb, ax]; exact h5
    · exact F.anew e he b (hb.trans (ao e he))
  exact { F with sub := s1, off := s2, accs := s3, aoff := s4, aapart := s5, aone := s6, anew := s7 }

theorem FSN.accSet {x : Str} {ds ds' : List D} {vs' : List Value} {n' : Nat} (F : FSN env Bk Z N₀ N ad ρ ac h) (hm : (x, ds) ∈ ac) (hs : Heap.SameBut (ad x) h h') (hl : IsL h' (ad x) vs'.toArray n') (r : RepL N h ds' vs') : FSN env Bk Z N₀ N ad ρ (ac.put x ds') h' := by
  have hN : ∀ a, N a → a ≠ ad x := fun a ha e => (F.sub a ha).2.2 (.inr (.inr ⟨_, hm, e⟩))
  have up : ∀ d v, Rep N h d v → Rep N h' d v := fun d v r => r.map fun b o hb e => ⟨hb, (hs.2 b (hN b hb)).trans e⟩
  have upL : ∀ d v, RepL N h d v → RepL N h' d v := fun d v r => r.map fun b o hb e => ⟨hb, (hs.2 b (hN b hb)).trans e⟩
  have hh : ∀ y u, Has env h y u → Has env h' y u := fun y u H => H.same hs (F.aoff _ hm).1 (F.aoff _ hm).2
  have nm : ∀ e ∈ ac.put x ds', ∃ f ∈ ac, f.1 = e.1 ∧ (e = f ∧ e.1 ≠ x ∨ e = (x, ds') ∧ f.1 = x) := fun e he => by
    obtain ⟨f, hf, rfl⟩ := List.mem_map.mp he
    by_cases hx : f.1 = x
    · rw [if_pos hx]; exact ⟨f, hf, hx, .inr ⟨rfl, hx⟩⟩
    · rw [if_neg hx]; exact ⟨f, hf, rfl, .inl ⟨rfl, hx⟩⟩
  have mu : ∀ b, Mut env ad (ac.put x ds') b → Mut env ad ac b := fun b hb => by
    rcases hb with e | e | ⟨e, he, e'⟩
    · exact .inl e
    · exact .inr (.inl e)
    · obtain ⟨f, hf, e1, _⟩ := nm e he
      exact .inr (.inr ⟨f, hf, by rw [e1]; exact e'⟩)
  refine ⟨F.kind, fun a ha => ⟨(F.sub a ha).1, (F.sub a ha).2.1, fun hM => (F.sub a ha).2.2 (mu a hM)⟩, fun a ha => F.new a ?_, fun a o b => (hs.2 a ?_).trans (F.keep a o b), fun a o b hM => F.off a o b (mu a hM), ?_, fun c hc => ?_, F.apart, F.lcell, fun y d e => ?_, fun e he => ?_,
    fun e he => ?_, fun e he f hf hne => ?_, fun e he f hf heq => ?_, fun e he => ?_⟩
  · by_cases e : a = ad x
    · subst e; rw [hl] at ha; cases ha
    · rw [← hs.2 a e]; exact ha
  · intro e; exact F.off a o b (.inr (.inr ⟨_, hm, e⟩))
  · obtain ⟨m, hn⟩ := F.ns
    exact ⟨m, hn.sameBut hs (Ne.symm (F.aoff _ hm).1)⟩
  · obtain ⟨v, hv⟩ := F.cells c hc
    exact ⟨v, hv.sameBut hs ((F.aoff _ hm).2 c hc)⟩
  · obtain ⟨v, a, b⟩ := F.vars y d e
    exact ⟨v, hh _ _ a, up _ _ b⟩
  · obtain ⟨f, hf, e1, c⟩ := nm e he
    rcases c with ⟨rfl, hne⟩ | ⟨rfl, hfx⟩
    · obtain ⟨a, vs, n, b, c⟩ := F.accs e hf
      exact ⟨fun q => hh _ _ (a q), vs, n, (hs.2 _ (F.aapart e hf _ hm hne)).trans b, upL _ _ c⟩
    · obtain ⟨a, _⟩ := F.accs _ hm
      exact ⟨fun q => hh _ _ (a q), vs', n', hl, upL _ _ r⟩
  · obtain ⟨f, hf, e1, _⟩ := nm e he
    rw [← e1]; exact F.aoff f hf
  · obtain ⟨e', he', e1, _⟩ := nm e he
    obtain ⟨f', hf', e2, _⟩ := nm f hf
    rw [← e1, ← e2] at hne ⊢
    exact F.aapart e' he' f' hf' hne
  · obtain ⟨e', he', e1, c1⟩ := nm e he
    obtain ⟨f', hf', e2, c2⟩ := nm f hf
    rcases c1 with ⟨rfl, h1⟩ | ⟨rfl, h1⟩ <;> rcases c2 with ⟨rfl, h2⟩ | ⟨rfl, h2⟩
    · exact F.aone _ he' _ hf' heq
    · exact absurd heq h1
    · exact absurd heq.symm h2
    · rfl
  · obtain ⟨f, hf, e1, _⟩ := nm e he
    rw [← e1]; exact F.anew f hf

/-- the list is changed no more: it is data from now on -/
theorem FSN.freeze {x : Str} {ds : List D} (F : FSN env Bk Z N₀ N ad ρ ac h) (hm : (x, ds) ∈ ac) (hx : x ≠ "") : FSN env Bk Z N₀ (fun a => N a ∨ a = ad x) ad (ρ.put x (.list ds)) (ac.del x) h := by
  have up : ∀ d v, Rep N h d v → Rep (fun a => N a ∨ a = ad x) h d v := fun d v r => r.map fun b o hb e => ⟨.inl hb, e⟩
  have upL : ∀ d v, RepL N h d v → RepL (fun a => N a ∨ a = ad x) h d v := fun d v r => r.map fun b o hb e => ⟨.inl hb, e⟩
  have acs : ∀ e ∈ ac.del x, e ∈ ac ∧ e.1 ≠ x := fun e he => by
    have := List.mem_filter.mp he
    exact ⟨this.1, by simpa using this.2⟩
  have mu : ∀ b, Mut env ad (ac.del x) b → Mut env ad ac b ∧ b ≠ ad x := fun b hb => by
    rcases hb with e | ⟨c, hc, e⟩ | ⟨e, he, e'⟩
    · exact ⟨.inl e, by rw [e]; exact Ne.symm (F.aoff _ hm).1⟩
    · exact ⟨.inr (.inl ⟨c, hc, e⟩), by rw [e]; exact (F.aoff _ hm).2 c (mcells_sub hc)⟩
    · exact ⟨.inr (.inr ⟨e, (acs e he).1, e'⟩), by rw [e']; exact F.aapart e (acs e he).1 _ hm (acs e he).2⟩
  refine ⟨F.kind, fun a ha => ?_, fun a ha => .inl (F.new a ha), F.keep, fun a o b hM => F.off a o b (mu a hM).1, F.ns, F.cells, F.apart, F.lcell, fun y d e => ?_, fun e he => ?_,
    fun e he => F.aoff e (acs e he).1, fun e he f hf => F.aapart e (acs e he).1 f (acs f hf).1, fun e he f hf => F.aone e (acs e he).1 f (acs f hf).1, fun e he => F.anew e (acs e he).1⟩
  · rcases ha with ha | rfl
    · exact ⟨(F.sub a ha).1, (F.sub a ha).2.1, fun hM => (F.sub a ha).2.2 (mu a hM).1⟩
    · exact ⟨(F.anew _ hm _ rfl).1, (F.anew _ hm _ rfl).2, fun hM => (mu _ hM).2 rfl⟩
  · unfold Vars.put at e
    by_cases hy : y = x
    · subst hy
      rw [if_pos rfl] at e; cases e
      obtain ⟨a, vs, n, b, c⟩ := F.accs _ hm
      exact ⟨_, a hx, Rep.list_iff.mpr ⟨_, vs, n, rfl, .inr rfl, b, upL _ _ c⟩⟩
    · rw [if_neg hy] at e
      obtain ⟨v, a, b⟩ := F.vars y d e
      exact ⟨v, a, up _ _ b⟩
  · obtain ⟨a, vs, n, b, c⟩ := F.accs e (acs e he).1
    exact ⟨a, vs, n, b, upL _ _ c⟩
end

section
variable {prog : Program} {w : World} {A : Around} {E : Value → Shared → Prop} {s : Shared} {env : Env} {Bk : Addr → Obj → Prop} {Z N₀ N : Addr → Prop} {ad : Str → Addr} {ρ : Vars} {ac : Accs} {Q : Flow → Shared → Prop}

theorem FSN.assign {x : Str} {p' p : Pos} {e : Expr} {d : D} (F : FSN env Bk Z N₀ N ad ρ ac s.heap) (T : 0 < s.toks) (hx : Own env x) (hE : Ev prog w A N env s.heap e d)
    (q : ∀ s', Sm s s' → FSN env Bk Z N₀ N ad (ρ.put x d) (ac.del x) s'.heap → Q .next s') (hs : swapsWith e (some (.Name x p')) p.line env = pure false := by rfl) : wpAny (model prog w) A (exec (.Assign [.Name x p'] e p) env) Q E s :=
  wpAny_Assign_Name (hs := hs) (hE s (Ext.refl _) T _ _ fun v s₁ g r => (F.grow g.keep).store hx r fun s' m F' _ => q s' (g.sm.trans m) F')

theorem FSN.newAcc {x : Str} {p' pl p : Pos} {es : List Expr} {ds : List D} (F : FSN env Bk Z N₀ N ad ρ ac s.heap) (T : 0 < s.toks) (hx : Own env x) (hE : EvL prog w A N env s.heap pl es ds) (hsz : ds.length ≤ sizeLine)
    (q : ∀ s' a, Sm s s' → N a → FSN env Bk Z N₀ (fun b => N b ∧ b ≠ a) (fun y => if y = x then a else ad y) (ρ.del x) ((x, ds) :: ac.del x) s'.heap → Q .next s') (hs : swapsWith (.List es pl) (some (.Name x p')) p.line env = pure false := by rfl) : wpAny (model prog w) A (exec (.Assign [.Name x p'] (.List es pl) p) env) Q E s := by
  refine wpAny_Assign_Name (hs := hs) (PySem.wpAny_List (hE s _ _ (Ext.refl _) T fun vs s₁ g r => ⟨by rw [r.length]; exact hsz, ?_⟩))
  have F1 := F.grow g.keep
  have X : Ext s₁.heap (s₁.heap.push { cls := .type "list", data := .seq vs.toArray }) := fun b o e => Heap.get?_push_of_some _ e
  have F2 := F1.narrow (P := fun a => a ≠ s₁.heap.objs.size) (fun a ha _ e => ha (by
    cases e' : s₁.heap.get? a with
    | none => rfl
    | some o => exact absurd e (live_ne e'))) (fun a ha e => by subst e; rw [Heap.get?_push_size _ rfl] at ha; cases ha) X
  have r2 : RepL (fun a => N a ∧ a ≠ s₁.heap.objs.size) (s₁.heap.push { cls := .type "list", data := .seq vs.toArray }) ds vs := r.map fun b o hb e => ⟨⟨hb, live_ne e⟩, X _ _ e⟩
  refine F2.store0 hx fun s' b m hb hsb F3 H3 k3 => ?_
  have hba : s₁.heap.objs.size ≠ b := by
    obtain ⟨o, ho⟩ := F1.llive hb
    exact Ne.symm (live_ne ho)
  have r3 : RepL (fun a => N a ∧ a ≠ s₁.heap.objs.size) s'.heap ds vs := r2.map fun b' o hb' e => ⟨hb', (hsb.2 b' fun e' => (F2.sub b' hb').2.2 (e' ▸ hb.more)).trans e⟩
  have l3 : IsL s'.heap s₁.heap.objs.size vs.toArray 0 := (hsb.2 _ hba).trans (IsL.new _ _)
  have nz : N s₁.heap.objs.size := F1.new _ (by
    cases e : s₁.heap.get? s₁.heap.objs.size with
    | none => rfl
    | some o => exact absurd rfl (live_ne e))
  refine q s' _ (g.sm.trans ⟨m.gens, m.os, m.drawn, m.toks⟩) nz (F3.addAcc (fun _ => H3) l3 r3 (fun x => x.2 rfl) ?_ (fun c hc => ?_) (fun e he => ⟨?_, ?_⟩) (fun b' o hb' => live_ne (F1.keep b' o hb')) ⟨(F.sub _ nz).1, (F.sub _ nz).2.1⟩)
  · obtain ⟨m, o, _, _, ho, _⟩ := F1.ns; exact Ne.symm (live_ne ho)
  · obtain ⟨v, o, ho, _⟩ := F1.cells c hc; exact live_ne ho
  · have := (List.mem_filter.mp he).2; simpa using this
  · obtain ⟨_, _, _, hl, _⟩ := F1.accs e (List.mem_filter.mp he).1; exact live_ne hl

theorem FSN.append {x : Str} {np ap p p2 : Pos} {e : Expr} {ds : List D} {d : D} (F : FSN env Bk Z N₀ N ad ρ ac s.heap) (T : 0 < s.toks) (hm : (x, ds) ∈ ac) (hE : Ev prog w A N env s.heap e d) (hsz : ds.length ≤ sizeLine) (hx : x ≠ "")
    (q : ∀ s', Sm s s' → FSN env Bk Z N₀ N ad ρ (ac.put x (ds ++ [d])) s'.heap → Q .next s')
    (hb : attributeBase (.Name x np) "append" env (eval (.Name x np) env) = eval (.Name x np) env := by rfl) (hs : starEach [e] env = [(false, eval e env)] := by rfl) (hp : (ap.endLine == p.line) = true := by rfl) (hd : (x == ("__debug__" : Str)) = false := by decide)
    (hi : interactive env = false := by rfl) (hsw : swapsWith (.Call (.Attribute (.Name x np) "append" ap) [e] [] p) none p2.line env = pure false := by rfl) :
    wpAny (model prog w) A (exec (.Expr (.Call (.Attribute (.Name x np) "append" ap) [e] [] p) p2) env) Q E s := by
  obtain ⟨H, vs, n, hl, r⟩ := F.accs _ hm
  refine wpAny_Expr (hi := hi) (hs := hsw) (Call_method1 hb hs hp ((H hx).load F.kind (Ext.refl _) ?_ hd))
  refine ⟨"list", "list.append", PySem.F.plainAttrs_list, PySem.F.slot_list_append, PySem.F.type_list_append, hl.isList.typeIs, (fun a e => by cases e; exact ⟨_, hl, rfl⟩), P.append_list (hE s (Ext.refl _) T _ _ fun v s₁ g r₁ => ?_)⟩
  have hl₁ : IsL s₁.heap (ad x) vs.toArray n := g.keep _ _ hl
  refine ⟨vs.toArray, n, by simp [r.length]; exact hsz, hl₁, ?_⟩
  have F1 := F.grow g.keep
  show Q .next _
  have hu := hl₁.update (fun xs => xs.push v)
  refine q _ (g.sm.trans ⟨.refl _, rfl, rfl, Nat.le_refl _⟩) (F1.accSet (vs' := vs ++ [v]) (n' := n + 1) hm (Heap.SameBut.update ..) (by simpa using hu) ((r.gr g).append (.cons r₁ .nil)))
end
end Mine

end

-- part Fw6
section
open PySem PySem.W PyProof.Rows
set_option Elab.async false
set_option linter.unusedVariables false
namespace Mine
section
variable {env : Env} {Bk Bk' : Addr → Obj → Prop} {Z N₀ N N₁ : Addr → Prop} {ad : Str → Addr} {ρ ρ' : Vars} {ac : Accs} {h h' : Heap}

theorem FSN.guard (F : FSN env Bk Z N₀ N ad ρ ac h) (h1 : ∀ a o, Bk' a o → h.get? a = some o) (h2 : ∀ a o, Bk' a o → ¬ Mut env ad ac a) : FSN env Bk' Z N₀ N ad ρ ac h := { F with keep := h1, off := h2 }
theorem FSN.less (F : FSN env Bk Z N₀ N ad ρ ac h) (k : ∀ a o, Bk' a o → Bk a o) : FSN env Bk' Z N₀ N ad ρ ac h := F.guard (fun a o b => F.keep a o (k a o b)) fun a o b => F.off a o (k a o b)
theorem FSN.forget (F : FSN env Bk Z N₀ N ad ρ ac h) (k : ∀ x d, ρ' x = some d → ρ x = some d) : FSN env Bk Z N₀ N ad ρ' ac h := { F with vars := fun x d e => F.vars x d (k x d e) }

/-- more addresses may lie in the data -/
theorem FSN.widen (F : FSN env Bk Z N₀ N ad ρ ac h) (k : ∀ a, N a → N₁ a) (k' : ∀ a, N₁ a → N₀ a ∧ ¬ Z a ∧ ¬ Mut env ad ac a) : FSN env Bk Z N₀ N₁ ad ρ ac h :=
  { F with
    sub := k'
    new := fun a ha => k a (F.new a ha)
    vars := fun x d e => let ⟨v, a, b⟩ := F.vars x d e; ⟨v, a, b.map fun _ _ hb e => ⟨k _ hb, e⟩⟩
    accs := fun e he => let ⟨a, vs, n, b, c⟩ := F.accs e he; ⟨a, vs, n, b, c.map fun _ _ hb e => ⟨k _ hb, e⟩⟩ }

/-- one object apart from the frame changes -/
theorem FSN.extBut {I : Addr} (F : FSN env Bk Z N₀ N ad ρ ac h) (hs : Heap.ExtBut I h h') (k : ∀ a, N a → N₁ a) (hI : ¬ N I) (k' : ∀ a, N₁ a → N₀ a ∧ ¬ Z a ∧ ¬ Mut env ad ac a) (hnew : h'.get? I = none → N₁ I)
    (hB : ∀ o, ¬ Bk I o) (hM : ¬ Mut env ad ac I) (hcc : ∀ c ∈ env.cells, c.2 ≠ I) : FSN env Bk Z N₀ N₁ ad ρ ac h' := by
  have hN : ∀ a, N a → a ≠ I := fun a ha e => hI (e ▸ ha)
  have up : ∀ d v, Rep N h d v → Rep N₁ h' d v := fun d v r => r.map fun b o hb e => ⟨k _ hb, hs _ _ (hN b hb) e⟩
  have upL : ∀ d v, RepL N h d v → RepL N₁ h' d v := fun d v r => r.map fun b o hb e => ⟨k _ hb, hs _ _ (hN b hb) e⟩
  have hl : env.locals ≠ I := fun e => hM (.inl e.symm)
  have hh : ∀ y u, Has env h y u → Has env h' y u := fun y u H => by
    cases H with
    | loc a b e => exact .loc a (b.extBut hs hl) e
    | cell a b e => let ⟨o, ho, r⟩ := e; exact .cell a b ⟨o, hs _ _ (hcc _ (mem_of_lookup b)) ho, r⟩
  refine ⟨F.kind, k', fun a ha => ?_, fun a o b => hs _ _ (fun e => hB o (e ▸ b)) (F.keep a o b), F.off, ?_, fun c hc => ?_, F.apart, F.lcell, fun y d e => ?_, fun e he => ?_, F.aoff, F.aapart, F.aone, F.anew⟩
  · by_cases e : a = I
    · subst e; exact hnew ha
    · refine k a (F.new a ?_)
      cases q : h.get? a with
      | none => rfl
      | some o => rw [hs _ _ e q] at ha; cases ha
  · obtain ⟨m, hn⟩ := F.ns
    exact ⟨m, hn.extBut hs hl⟩
  · obtain ⟨v, hv⟩ := F.cells c hc
    exact ⟨v, let ⟨o, ho, r⟩ := hv; ⟨o, hs _ _ (hcc c hc) ho, r⟩⟩
  · obtain ⟨v, a, b⟩ := F.vars y d e
    exact ⟨v, hh _ _ a, up _ _ b⟩
  · obtain ⟨a, vs, n, b, c⟩ := F.accs e he
    exact ⟨fun q => hh _ _ (a q), vs, n, hs _ _ (fun q => hM (.inr (.inr ⟨e, he, q.symm⟩))) b, upL _ _ c⟩

theorem FSN.notMut_none (F : FSN env Bk Z N₀ N ad ρ ac h) {I : Addr} (hI : h.get? I = none) : ¬ Mut env ad ac I := fun hM => by
  rcases hM with e | ⟨c, hc, e⟩ | ⟨e, he, e'⟩
  · obtain ⟨m, o, _, _, ho, _⟩ := F.ns; rw [← e, hI] at ho; cases ho
  · obtain ⟨v, o, ho, _⟩ := F.cells c (mcells_sub hc); rw [← e, hI] at ho; cases ho
  · obtain ⟨_, _, _, hl, _⟩ := F.accs e he; rw [← e'] at hl; unfold IsL at hl; rw [hI] at hl; cases hl
theorem FSN.notBk_none (F : FSN env Bk Z N₀ N ad ρ ac h) {I : Addr} (hI : h.get? I = none) (o : Obj) : ¬ Bk I o := fun b => by
  have := F.keep _ _ b; rw [hI] at this; cases this
theorem FSN.notCell_none (F : FSN env Bk Z N₀ N ad ρ ac h) {I : Addr} (hI : h.get? I = none) : ∀ c ∈ env.cells, c.2 ≠ I := fun c hc e => by
  obtain ⟨v, o, ho, _⟩ := F.cells c hc; rw [e, hI] at ho; cases ho
end

/-- what gives the data ds one after another -/
structure Walk (prog : Program) (w : World) (A : Around) (N : Addr → Prop) (T : Bool) (I : Addr) (ds : List D) (S : Nat → Heap → Prop) : Prop where
  frame : ∀ k h h', S k h → (∀ b o, (b = I ∨ N b) → h.get? b = some o → h'.get? b = some o) → S k h'
  live : ∀ k h, S k h → h.get? I ≠ none
  item : ∀ k d (s : Shared) (Q : Option Value → Shared → Prop) (E : Value → Shared → Prop), ds[k]? = some d → S k s.heap → 0 < s.toks →
    (∀ v s', Sm s s' → Rep N s'.heap d v → S (k + 1) s'.heap → Heap.ExtBut I s.heap s'.heap → Q (some v) s') → wpAny (model prog w) A (pyNext (.ref I)) Q E s
  done : ∀ (s : Shared) (Q : Option Value → Shared → Prop) (E : Value → Shared → Prop), S ds.length s.heap → (∀ s', Sm s s' → Heap.ExtBut I s.heap s'.heap → Q none s') → wpAny (model prog w) A (pyNext (.ref I)) Q E s
  self : ∀ k (s : Shared) (Q : Value → Shared → Prop) (E : Value → Shared → Prop), S k s.heap → Q (.ref I) s → wpAny (model prog w) A (pyIter (.ref I)) Q E s
  go : ∀ k (s : Shared) (Q : Unit → Shared → Prop) (E : Value → Shared → Prop) elts x1 pos t, T = true → S k s.heap → Q () s → wpAny (model prog w) A (letOwnedTupleGo (.Tuple elts x1 pos) (.ref I) (.ref t)) Q E s

def EvIt (prog : Program) (w : World) (A : Around) (N : Addr → Prop) (env : Env) (h : Heap) (T : Bool) (e : Expr) (ds : List D) : Prop :=
  ∀ (s : Shared) (Q : Value → Shared → Prop) (E : Value → Shared → Prop), Ext h s.heap → 0 < s.toks →
    (∀ I s', Gr s s' → s.heap.get? I = none → s'.heap.get? I ≠ none → (∀ N' : Addr → Prop, (∀ b o, N b → b ≠ I → s'.heap.get? b = some o → N' b) → ∃ S, Walk prog w A N' T I ds S ∧ S 0 s'.heap) → Q (.ref I) s') → wpAny (model prog w) A (eval e env) (fun x s₁ => wpAny (model prog w) A (pyIter x) Q E s₁) E s

section
variable {prog : Program} {w : World} {A : Around} {N : Addr → Prop} {env : Env} {h : Heap}
theorem get_none {h : Heap} {a : Addr} (ha : h.objs.size ≤ a) : h.get? a = none := by
  cases e : h.get? a with
  | none => rfl
  | some o => exact absurd (Heap.lt_size e) (Nat.not_lt.mpr ha)
theorem RepL.at {N : Addr → Prop} {h : Heap} {ds : List D} {vs : List Value} (r : RepL N h ds vs) {k : Nat} {d : D} (hd : ds[k]? = some d) : ∃ v, vs.toArray[k]? = some v ∧ Rep N h d v := by
  obtain ⟨v, e, r'⟩ := r.get hd
  exact ⟨v, by simpa using e, r'⟩

theorem EvIt.list {e : Expr} {ds : List D} (hh : A.handled = none) (H : Ev prog w A N env h e (.list ds)) : EvIt prog w A N env h true e ds := fun s Q E X T q => by
  refine H s X T _ _ fun v s₁ g r => ?_
  obtain ⟨a, vs, n, rfl, ha, hl, rl⟩ := Rep.list_iff.mp r
  refine wpAny_pyIter_list hl.isList ?_
  have g2 := Gr.push s₁ { cls := .type "list_iterator", data := .fields #[.ref a, .int 0 0] } s₁.toks (Nat.le_refl _)
  have hne : ∀ b o, s₁.heap.get? b = some o → b ≠ s₁.heap.objs.size := fun b o e => live_ne e
  have hnI : s.heap.get? s₁.heap.objs.size = none := by
    cases q : s.heap.get? s₁.heap.objs.size with
    | none => rfl
    | some o => exact absurd rfl (live_ne (g.keep _ _ q))
  refine q s₁.heap.objs.size _ (g.trans g2) hnI (by rw [Heap.get?_push_size _ rfl]; exact Option.some_ne_none _) fun N' hN' => ?_
  have haN' : N' a := hN' _ _ ha (hne _ _ hl) (g2.keep _ _ hl)
  refine ⟨fun k h => h.IsListIter s₁.heap.objs.size a k ∧ IsL h a vs.toArray n ∧ RepL (fun b => N' b ∧ b ≠ s₁.heap.objs.size) h ds vs, ?_, ?_⟩
  · refine ⟨fun k h h' st kp => ⟨st.1.at fun o e => kp _ _ (.inl rfl) e, kp _ _ (.inr haN') st.2.1, st.2.2.map fun b o hb e => ⟨hb, kp _ _ (.inr hb.1) e⟩⟩,
      fun k h st e => ?_, fun k d s Q E hd st T q => ?_, fun s Q E st q => ?_, fun k s Q E st q => wpAny_pyIter_listiter st.1 q, fun k s Q E elts x1 pos t _ st q => wpAny_letOwnedTupleGo_listiter st.1 q⟩
    · obtain ⟨⟨o, ho, _⟩, _⟩ := st
      rw [e] at ho; cases ho
    · obtain ⟨u, hu, ru⟩ := st.2.2.at hd
      refine wpAny_pyNext_list_item st.1 st.2.1.isList hu fun h' hit' hs' => ?_
      have up : ∀ b o, b ≠ s₁.heap.objs.size → s.heap.get? b = some o → h'.get? b = some o := fun b o hb e => hs'.extBut _ _ hb e
      exact q _ _ ⟨.refl _, rfl, rfl, Nat.le_refl _⟩ (ru.map fun b o hb e => ⟨hb.1, up _ _ hb.2 e⟩) ⟨hit', up _ _ (hne _ _ hl) st.2.1, st.2.2.map fun b o hb e => ⟨hb, up _ _ hb.2 e⟩⟩ hs'.extBut
    · refine wpAny_pyNext_list_end hh st.1 st.2.1.isList (by have := st.2.2.length; simp [this]) fun h' he' => q _ ⟨.refl _, rfl, rfl, Nat.le_refl _⟩ he'
  · exact ⟨⟨_, Heap.get?_push_size _ rfl, rfl, rfl⟩, g2.keep _ _ hl, rl.map fun b o hb e => ⟨⟨hN' _ _ hb (hne _ _ e) (g2.keep _ _ e), hne _ _ e⟩, g2.keep _ _ e⟩⟩

def upto (n : Nat) : List D := (List.range n).map fun (k : Nat) => D.int (k : Int)
theorem upto_get {n k : Nat} {d : D} (e : (upto n)[k]? = some d) : k < n ∧ d = .int (k : Int) := by
  unfold upto at e
  rw [List.getElem?_map] at e
  by_cases hk : k < n
  · simp [hk] at e; exact ⟨hk, e.symm⟩
  · simp [hk] at e

theorem EvIt.range {mg mb : Str → Option Value} {rp p : Pos} {e : Expr} {n : Int} (hh : A.handled = none) (F : FE env) (G : Gl mg mb h) (hx : env.kindOf "range" = some .globalImplicit) (hm : mg "range" = none) (hb : mb "range" = some (.type "range"))
    (H : Ev prog w A N env h e (.int n)) (h0 : 0 ≤ n) (h1 : n < 2 ^ 62) (hse : backTo p (starEach [e] env) = [(false, eval e env)] := by rfl) :
    EvIt prog w A N env h false (.Call (.Name "range" rp) [e] [] p) (upto n.toNat) := fun s Q E X T q => by
  refine wpAny_Call_NameR (name_b (id := "range") F (G.ext X) hx hm hb ?_)
  rw [hse]
  refine PySem.callWith_type rfl (Calls.evalArgs_plain (Calls.spliced_cons (H s X T _ _ fun v s₁ g r => Calls.spliced_nil ?_)))
  obtain ⟨t, rfl⟩ := Rep.int_iff.mp r
  refine call_range_1 ?_
  refine wpAny_pyIter_range (IsRange.new ..) (small_one (by decide) (by decide) (by omega) h1) ?_
  obtain ⟨n, rfl⟩ := Int.eq_ofNat_of_zero_le h0
  have hsz : Builtin.Range.rangeSize 0 n 1 = (n : Int) := by rw [rangeSize_one]; split <;> omega
  have k2 : ∀ b o, s₁.heap.get? b = some o → ((s₁.heap.push { cls := .type "range", data := .fields #[.int 0 s₁.toks, .int n t, .int 1 (s₁.toks + 1)] }).push { cls := .type "range_iterator", data := .fields #[rawInt 0, rawInt (Builtin.Range.rangeSize 0 n 1), rawInt 1] }).get? b = some o :=
    fun b o e => Heap.get?_push_of_some _ (Heap.get?_push_of_some _ e)
  have hI : s₁.heap.objs.size ≤ (s₁.heap.push { cls := .type "range", data := .fields #[.int 0 s₁.toks, .int n t, .int 1 (s₁.toks + 1)] }).objs.size := by rw [Heap.size_push]; exact Nat.le_succ _
  refine q _ _ ⟨fun b o e => k2 b o (g.keep b o e), g.gens, g.os, g.drawn, Nat.le_trans g.toks (by show s₁.toks ≤ s₁.toks + 1 + 1; omega)⟩ ?_ (by rw [Heap.get?_push_size _ rfl]; exact Option.some_ne_none _) fun N' _ => ⟨fun k h => IsRangeIter h (s₁.heap.push { cls := .type "range", data := .fields #[.int 0 s₁.toks, .int n t, .int 1 (s₁.toks + 1)] }).objs.size (k : Int) ((n : Int) - k) 1, ?_, ?_⟩
  · cases q : s.heap.get? (s₁.heap.push { cls := .type "range", data := .fields #[.int 0 s₁.toks, .int n t, .int 1 (s₁.toks + 1)] }).objs.size with
    | none => rfl
    | some o => exact absurd (Heap.lt_size (g.keep _ _ q)) (Nat.not_lt.mpr hI)
  · refine ⟨fun k h h' st kp => kp _ _ (.inl rfl) st, fun k h st e => ?_, fun k d s Q E hd st T q => ?_, fun s Q E st q => ?_, fun k s Q E st q => wpAny_pyIter_rangeiter st q, fun k s Q E elts x1 pos t hT => by cases hT⟩
    · rw [show h.get? _ = _ from st] at e; cases e
    · obtain ⟨hk, rfl⟩ := upto_get hd
      have hk' : k < n := by simpa using hk
      refine wpAny_pyNext_range_item st (by omega) fun h' hit' hs' => ?_
      refine q _ _ ⟨.refl _, rfl, rfl, Nat.le_succ _⟩ .int' ?_ hs'.extBut
      have e1 : ((k + 1 : Nat) : Int) = (k : Int) + 1 := by push_cast; rfl
      rw [e1]
      have e2 : (n : Int) - ((k : Int) + 1) = (n : Int) - k - 1 := by omega
      rw [e2]; exact hit'
    · refine wpAny_pyNext_range_end hh st (by unfold upto; simp) fun h' he' => q _ ⟨.refl _, rfl, rfl, Nat.le_refl _⟩ he'
  · show IsRangeIter _ _ _ _ _
    rw [hsz]
    have := Heap.get?_push_size (s₁.heap.push { cls := .type "range", data := .fields #[.int 0 s₁.toks, .int n t, .int 1 (s₁.toks + 1)] }) (o := { cls := .type "range_iterator", data := .fields #[rawInt 0, rawInt (n : Int), rawInt 1] }) rfl
    simpa using this
end
end Mine

end

-- part Fw7
section
open PySem PySem.W PyProof.Rows
set_option Elab.async false
set_option linter.unusedVariables false
namespace Mine

/-- a target of a loop -/
structure Tgt (prog : Program) (w : World) (A : Around) (env : Env) (t : Expr) (T : Bool) (ok : D → Prop) (up : D → Vars → Vars) (dl : Accs → Accs) : Prop where
  go : (∀ it v, letOwnedTupleGo t it v = pure ()) ∨ (T = true ∧ (∀ N h d v, ok d → Rep N h d v → ∃ a, v = .ref a) ∧ ∃ elts c p, t = .Tuple elts c p)
  set : ∀ {Bk : Addr → Obj → Prop} {Z N₀ N : Addr → Prop} {ad : Str → Addr} {ρ : Vars} {ac : Accs} {s : Shared} {d : D} {v : Value} (Q : Unit → Shared → Prop) (E : Value → Shared → Prop), ok d → FSN env Bk Z N₀ N ad ρ ac s.heap → 0 < s.toks → Rep N s.heap d v →
    (∀ s', Sm s s' → FSN env Bk Z N₀ N ad (up d ρ) (dl ac) s'.heap → Q () s') → wpAny (model prog w) A (assign t env v) Q E s

section
variable {prog : Program} {w : World} {A : Around} {env : Env}
theorem Tgt.name {x : Str} {p : Pos} {T : Bool} (hx : Own env x) : Tgt prog w A env (.Name x p) T (fun _ => True) (fun d ρ => ρ.put x d) (fun ac => ac.del x) :=
  ⟨.inl fun _ _ => rfl, fun Q E _ F T r q => PyProof.Rows.assign_Name (F.store hx r fun s' m F' _ => q s' m F')⟩

def upT (x y : Str) (d : D) (ρ : Vars) : Vars := match d with | .tup [a, b] => (ρ.put x a).put y b | _ => ρ
theorem setTup {x y : Str} {k : Nat} {px py p : Pos} (hh : A.handled = none) (hx : Own env x) (hy : Own env y) (hxy : x ≠ y) {Bk : Addr → Obj → Prop} {Z N₀ N : Addr → Prop} {ad : Str → Addr} {ρ : Vars} {ac : Accs} {s : Shared} {a b : D} {v : Value}
    (Q : Unit → Shared → Prop) (E : Value → Shared → Prop) (F : FSN env Bk Z N₀ N ad ρ ac s.heap) (r : Rep N s.heap (.tup [a, b]) v)
    (q : ∀ s', Sm s s' → FSN env Bk Z N₀ N ad ((ρ.put x a).put y b) ((ac.del x).del y) s'.heap → Q () s') : wpAny (model prog w) A (assign (.Tuple [.Name x px, .Name y py] k p) env v) Q E s := by
  obtain ⟨t, vs, n, rfl, ht, hl, rl⟩ := Rep.tup_iff.mp r
  obtain ⟨u, v, rfl, ru, rv⟩ := rl.two
  refine wpAny_assign_Tuple (items := #[u, v]) hh ⟨_, hl, rfl, _, rfl⟩ rfl rfl fun h' he => ?_
  have X : Ext s.heap h' := fun b o e => he _ _ (live_ne e) e
  show wpAny _ _ (do holding [v] (assign (.Name x px) env u); (do holding [] (assign (.Name y py) env v); pure ())) _ _ _
  have F' := F.grow X
  have ru' : Rep N h' a u := ru.map fun b o hb e => ⟨hb, X _ _ e⟩
  have rv' : Rep N h' b v := rv.map fun b o hb e => ⟨hb, X _ _ e⟩
  refine wpAny_bind (wpAny_holding (PyProof.Rows.assign_Name (FSN.store (s := { s with heap := h' }) F' hx ru' fun s₁ m₁ F₁ k₁ => ?_)))
  refine wpAny_bind (wpAny_holding (PyProof.Rows.assign_Name (F₁.store hy (k₁ _ _ rv') fun s₂ m₂ F₂ _ => wpAny_pure (q s₂ (Sm.trans (b := s₁) ⟨m₁.gens, m₁.os, m₁.drawn, m₁.toks⟩ m₂) F₂))))
theorem Tgt.tup {x y : Str} {k : Nat} {px py p : Pos} (hh : A.handled = none) (hx : Own env x) (hy : Own env y) (hxy : x ≠ y) : Tgt prog w A env (.Tuple [.Name x px, .Name y py] k p) true (fun d => ∃ a b, d = .tup [a, b]) (upT x y) (fun ac => (ac.del x).del y) := by
  refine ⟨.inr ⟨rfl, fun N h d v hd r => ?_, _, _, _, rfl⟩, fun Q E hd F T r q => ?_⟩
  · obtain ⟨a, b, rfl⟩ := hd
    obtain ⟨t, _, _, rfl, _⟩ := Rep.tup_iff.mp r
    exact ⟨t, rfl⟩
  · obtain ⟨a, b, rfl⟩ := hd
    exact setTup hh hx hy hxy Q E F r q
end

/-- where a walk stands within a frame -/
structure LI (env : Env) (Bk : Addr → Obj → Prop) (Z N₀ N : Addr → Prop) (ad : Str → Addr) (I : Addr) (S : Nat → Heap → Prop) (k : Nat) (ρ : Vars) (ac : Accs) (h : Heap) : Prop where
  f : FSN env Bk Z N₀ (fun a => N a ∧ a ≠ I) ad ρ ac h
  s : S k h
  m : ¬ Mut env ad ac I

section
variable {prog : Program} {w : World} {A : Around} {env : Env} {Bk : Addr → Obj → Prop} {Z N₀ N : Addr → Prop} {ad : Str → Addr} {ρ : Vars} {ac : Accs} {I : Addr} {S : Nat → Heap → Prop} {T : Bool} {ds : List D} {s : Shared}

/-- the walk begins -/
theorem LI.start {h h' : Heap} (F : FSN env Bk Z N₀ N ad ρ ac h) (X : Ext h h') (hI : h.get? I = none) (hS : S 0 h') (hl : h'.get? I ≠ none) : LI env Bk Z N₀ N ad I S 0 ρ ac h' :=
  ⟨F.narrow (P := fun a => a ≠ I) (fun a ha _ e => ha (e ▸ hI)) (fun a ha e => hl (e ▸ ha)) X, hS, F.notMut_none hI⟩

theorem Walk.turn {k : Nat} {d : D} {Q : Option Value → Shared → Prop} {E : Value → Shared → Prop} (W : Walk prog w A (fun a => N a ∧ a ≠ I) T I ds S) (hB : ∀ o, ¬ Bk I o) (hcc : ∀ c ∈ env.cells, c.2 ≠ I) (hd : ds[k]? = some d)
    (L : LI env Bk Z N₀ N ad I S k ρ ac s.heap) (hT : 0 < s.toks)
    (q : ∀ v s₁ Bk', Sm s s₁ → FSN env Bk' Z N₀ (fun a => N a ∧ a ≠ I) ad ρ ac s₁.heap → Rep (fun a => N a ∧ a ≠ I) s₁.heap d v → S (k + 1) s₁.heap → (∀ a o, Bk a o → Bk' a o) →
      (∀ h' ρ' ac', FSN env Bk' Z N₀ (fun a => N a ∧ a ≠ I) ad ρ' ac' h' → LI env Bk Z N₀ N ad I S (k + 1) ρ' ac' h') → Q (some v) s₁) : wpAny (model prog w) A (pyNext (.ref I)) Q E s := by
  refine W.item k d s Q E hd L.s hT fun v s₁ m r st he => ?_
  have F₁ := L.f.extBut he (fun _ x => x) (fun x => x.2 rfl) L.f.sub (fun e => absurd e (W.live _ _ st)) hB L.m hcc
  obtain ⟨oI, hoI⟩ : ∃ o, s₁.heap.get? I = some o := by
    cases e : s₁.heap.get? I with
    | none => exact absurd e (W.live _ _ st)
    | some o => exact ⟨o, rfl⟩
  have F₂ : FSN env (fun a o => Bk a o ∨ ((a = I ∨ (N a ∧ a ≠ I)) ∧ s₁.heap.get? a = some o)) Z N₀ (fun a => N a ∧ a ≠ I) ad ρ ac s₁.heap := F₁.guard (fun a o b => b.elim (F₁.keep a o) (·.2)) fun a o b => by
    rcases b with b | ⟨rfl | hb, _⟩
    · exact F₁.off a o b
    · exact L.m
    · exact (F₁.sub a hb).2.2
  refine q v s₁ _ m F₂ r st (fun a o b => .inl b) fun h' ρ' ac' F' => ⟨F'.less fun a o b => .inl b, W.frame _ _ _ st fun b o hb e => F'.keep b o (.inr ⟨hb, e⟩), F'.off I oI (.inr ⟨.inl rfl, hoI⟩)⟩

theorem Walk.last {Q : Option Value → Shared → Prop} {E : Value → Shared → Prop} (W : Walk prog w A (fun a => N a ∧ a ≠ I) T I ds S) (hB : ∀ o, ¬ Bk I o) (hcc : ∀ c ∈ env.cells, c.2 ≠ I) (hN : N I)
    (L : LI env Bk Z N₀ N ad I S ds.length ρ ac s.heap) (hNF : ∀ a, N a → N₀ a ∧ ¬ Z a ∧ ¬ Mut env ad ac a) (q : ∀ s', Sm s s' → FSN env Bk Z N₀ N ad ρ ac s'.heap → Q none s') : wpAny (model prog w) A (pyNext (.ref I)) Q E s := by
  refine W.done s Q E L.s fun s₁ m he => q s₁ m ?_
  exact L.f.extBut he (fun _ x => x.1) (fun x => x.2 rfl) hNF (fun _ => hN) hB L.m hcc

/-- the loop over data -/
theorem FSN.forD {t it : Expr} {body : List Stmt} {p : Pos} {Q : Flow → Shared → Prop} {E : Value → Shared → Prop} {ok : D → Prop} {up : D → Vars → Vars} {dl : Accs → Accs} (F : FSN env Bk Z N₀ N ad ρ ac s.heap) 
    (P : Shared → Prop) (hP : ∀ a b, P a → Sm a b → P b) (hP0 : ∀ a, P a → 0 < a.toks) (p0 : P s)
    (hI : EvIt prog w A N env s.heap T it ds) (ht : Tgt prog w A env t T ok up dl) (hok : ∀ d ∈ ds, ok d) (Inv : Nat → Vars → Accs → Prop) (i0 : Inv 0 ρ ac)
    (hnm : ∀ k ρ' ac', Inv k ρ' ac' → ∀ e ∈ ac', ∃ f ∈ ac, f.1 = e.1)
    (hbody : ∀ k d ρ' ac' Bk' N' s' E', ds[k]? = some d → Inv k ρ' ac' → (∀ a, N' a → N a) → (∀ a o, Bk a o → Bk' a o) → FSN env Bk' Z N₀ N' ad (up d ρ') (dl ac') s'.heap → P s' →
      wpAny (model prog w) A (execs body env) (fun f s₃ => (f = .next ∨ f = .cont) ∧ P s₃ ∧ ∃ ρ₃ ac₃, FSN env Bk' Z N₀ N' ad ρ₃ ac₃ s₃.heap ∧ Inv (k + 1) ρ₃ ac₃) E' s')
    (q : ∀ s' ρ' ac', P s' → FSN env Bk Z N₀ N ad ρ' ac' s'.heap → Inv ds.length ρ' ac' → Q .next s') (hs : ∀ x, foldedSetIterable it env x = pure x := by intro _; rfl) :
    wpAny (model prog w) A (exec (.For t it body [] p) env) Q E s := by
  refine wpAny_For (hI s _ _ (Ext.refl _) (hP0 _ p0) fun I s₁ g hnI hlI hW => ?_) hs
  obtain ⟨S, W, hS⟩ := hW (fun a => N a ∧ a ≠ I) fun b o hb hne _ => ⟨hb, hne⟩
  have L0 := LI.start (N := N) F g.keep hnI hS hlI
  have hB := F.notBk_none hnI
  have hcc := F.notCell_none hnI
  refine codeAny_forLoop_any (fun n s' => ∃ k ρ' ac', n = ds.length - k ∧ k ≤ ds.length ∧ P s' ∧ Inv k ρ' ac' ∧ LI env Bk Z N₀ N ad I S k ρ' ac' s'.heap) ?_ ds.length ⟨0, ρ, ac, rfl, Nat.zero_le _, hP _ _ p0 g.sm, i0, L0⟩
  rintro n s' ⟨k, ρ', ac', rfl, hk, hp, hi, L⟩
  by_cases hlt : k < ds.length
  · have hd : ds[k]? = some ds[k] := List.getElem?_eq_getElem hlt
    refine W.turn hB hcc hd L (hP0 _ hp) fun v s₂ Bk' m F₂ r st hbk back => ?_
    have cont : wpAny (model prog w) A (PySem.assign t env v) (fun _ s₂ => wpAny (model prog w) A (execs body env) (fun f s₃ => match f with
          | .next | .cont => ∃ m, m < ds.length - k ∧ ∃ k' ρ' ac', m = ds.length - k' ∧ k' ≤ ds.length ∧ P s₃ ∧ Inv k' ρ' ac' ∧ LI env Bk Z N₀ N ad I S k' ρ' ac' s₃.heap
          | .brk => Q .next s₃
          | .ret v => Q (.ret v) s₃) (notedBy (model prog w) A env fun e s' => cameBackBy (model prog w) A env E e s') s₂) (notedBy (model prog w) A env fun e s' => cameBackBy (model prog w) A env E e s') s₂ := by
      refine ht.set _ _ (hok _ (List.getElem_mem hlt)) F₂ (m.pos (hP0 _ hp)) r fun s₃ m₃ F₃ => ?_
      refine wpAny_mono (hbody k _ ρ' ac' Bk' _ s₃ _ hd hi (fun a x => x.1) hbk F₃ (hP _ _ hp (m.trans m₃))) (fun f s₄ h₄ => ?_) fun _ _ x => x
      obtain ⟨hf, hp₄, ρ₄, ac₄, F₄, i₄⟩ := h₄
      have fin : ∃ m, m < ds.length - k ∧ ∃ k' ρ' ac', m = ds.length - k' ∧ k' ≤ ds.length ∧ P s₄ ∧ Inv k' ρ' ac' ∧ LI env Bk Z N₀ N ad I S k' ρ' ac' s₄.heap := ⟨ds.length - (k + 1), by omega, k + 1, ρ₄, ac₄, rfl, hlt, hp₄, i₄, back _ _ _ F₄⟩
      rcases hf with rfl | rfl <;> exact fin
    show wpAny (model prog w) A (letOwnedTupleGo t (.ref I) v) _ _ s₂
    rcases ht.go with hgo | ⟨hTT, href, elts, c, p, rfl⟩
    · exact wpAny_of_eq (hgo _ _) cont
    · obtain ⟨a, rfl⟩ := href _ _ _ _ (hok _ (List.getElem_mem hlt)) r
      exact W.go (k + 1) s₂ _ _ _ _ _ _ hTT st cont
  · have hke : k = ds.length := by omega
    subst hke
    refine W.last hB hcc (F.new I hnI) L (fun a ha => ⟨(F.sub a ha).1, (F.sub a ha).2.1, fun hM => (F.sub a ha).2.2 ?_⟩) fun s₂ m F₂ => wpAny_execs_nil (q s₂ ρ' ac' (hP _ _ hp m) F₂ hi)
    rcases hM with e | e | ⟨e, he, e'⟩
    · exact .inl e
    · exact .inr (.inl e)
    · obtain ⟨f, hf, e1⟩ := hnm _ _ _ hi e he
      exact .inr (.inr ⟨f, hf, by rw [e1]; exact e'⟩)

/-- statements -/
theorem FSN.ite {test : Expr} {body orelse : List Stmt} {p : Pos} {b : Bool} {Q : Flow → Shared → Prop} {E : Value → Shared → Prop} (F : FSN env Bk Z N₀ N ad ρ ac s.heap) (hT : 0 < s.toks) (H : Tr prog w A env s.heap test b)
    (kt : b = true → ∀ s', Sm s s' → FSN env Bk Z N₀ N ad ρ ac s'.heap → wpAny (model prog w) A (execs body env) Q E s')
    (kf : b = false → ∀ s', Sm s s' → FSN env Bk Z N₀ N ad ρ ac s'.heap → wpAny (model prog w) A (execs orelse env) Q E s') : wpAny (model prog w) A (exec (.If test body orelse p) env) Q E s := by
  refine wpAny_If (H s _ _ (Ext.refl _) hT fun s' g => ?_)
  cases b with
  | true => exact kt rfl s' g.sm (F.grow g.keep)
  | false => exact kf rfl s' g.sm (F.grow g.keep)
theorem FSN.ret {e : Expr} {p : Pos} {d : D} {Q : Flow → Shared → Prop} {E : Value → Shared → Prop} (F : FSN env Bk Z N₀ N ad ρ ac s.heap) (hT : 0 < s.toks) (H : Ev prog w A N env s.heap e d)
    (q : ∀ v s', Sm s s' → FSN env Bk Z N₀ N ad ρ ac s'.heap → Rep N s'.heap d v → Q (.ret v) s') : wpAny (model prog w) A (exec (.Return (some e) p) env) Q E s :=
  wpAny_Return_some (H s (Ext.refl _) hT _ _ fun v s' g r => q v s' g.sm (F.grow g.keep) r)

/-- a while loop -/
theorem While_of {test : Expr} {body : List Stmt} {p : Pos} {Q : Flow → Shared → Prop} {E : Value → Shared → Prop} (I : Nat → Shared → Prop) (n : Nat) (i0 : I n s)
    (turn : ∀ n s, I n s → 0 < s.toks ∧ ∃ b, Tr prog w A env s.heap test b ∧ (b = true → ∀ s' E', Gr s s' → wpAny (model prog w) A (execs body env) (fun f s₃ => match f with
      | .next | .cont => ∃ m, m < n ∧ I m s₃
      | .brk => Q .next s₃
      | .ret v => Q (.ret v) s₃) E' s') ∧ (b = false → ∀ s', Gr s s' → Q .next s')) : wpAny (model prog w) A (exec (.While test body [] p) env) Q E s := by
  refine wpAny_While (codeAny_whileLoop I (fun n s hI => ?_) n i0)
  obtain ⟨hT, b, H, kt, kf⟩ := turn n s hI
  refine H s _ _ (Ext.refl _) hT fun s' g => ?_
  cases b with
  | true =>
    refine wpAny_mono (kt rfl s' _ g) (fun f s₃ h₃ => ?_) fun _ _ x => x
    cases f <;> exact h₃
  | false => exact wpAny_execs_nil (kf rfl s' g)
end
end Mine

end

-- part Fw8
section
open PySem PySem.W PyProof.Rows
set_option Elab.async false
set_option linter.unusedVariables false
namespace Mine

/-- the tests of a comprehension's clause -/
def testsOf (ifs : List Expr) (env : Env) : Sem Bool := do
  let mut ok := true
  for c in ifs do
    if ok then ok ← isTrue c env (eval c env)
  return ok
/-- one turn of a clause -/
def clauseTurn (target iter : Expr) (ifs : List Expr) (it : Value) (env : Env) (inner : Sem Fin) (more : Sem Fin) : Sem Fin := do
  standAt iter.pos
  match ← pyNext it with
  | none => pure (.done .next)
  | some v =>
    letOwnedTupleGo target it v
    assign target env v
    let mut ok := true
    for c in ifs do
      if ok then ok ← isTrue c env (eval c env)
    if ok then inner else more
def emitOf (elt : Expr) (acc : Value) (env : Env) (more : Sem Fin) : Sem Fin := (do let _ ← call (.builtin "list.append") [acc, ← eval elt env] : Sem Unit) >>= fun _ => more
def nestOf (e : Expr) (iter : Expr) (acc : Value) (env : Env) (more : Sem Fin) : Sem Fin := do
  let x ← eval iter env
  standAt iter.pos
  let x ← foldedSetIterable iter env x
  let _ ← runOwn (.compStart e 1 (← holding [x] (pyIter x)) acc env) env
  more

theorem turn_one (elt target iter : Expr) (ifs : List Expr) (scope : Scope) (pos : Pos) (it acc : Value) (env : Env) :
    compTurn (.ListComp elt [⟨target, iter, ifs, 0⟩] scope pos) 0 it acc env = clauseTurn target iter ifs it env (emitOf elt acc env (again (.compLoop (.ListComp elt [⟨target, iter, ifs, 0⟩] scope pos) 0 it acc env))) (again (.compLoop (.ListComp elt [⟨target, iter, ifs, 0⟩] scope pos) 0 it acc env)) := by rfl
theorem turn_in (elt : Expr) (g : Comprehension) (target iter : Expr) (ifs : List Expr) (scope : Scope) (pos : Pos) (it acc : Value) (env : Env) :
    compTurn (.ListComp elt [g, ⟨target, iter, ifs, 0⟩] scope pos) 1 it acc env = clauseTurn target iter ifs it env (emitOf elt acc env (again (.compLoop (.ListComp elt [g, ⟨target, iter, ifs, 0⟩] scope pos) 1 it acc env))) (again (.compLoop (.ListComp elt [g, ⟨target, iter, ifs, 0⟩] scope pos) 1 it acc env)) := by rfl
theorem turn_out (elt : Expr) (t2 i2 : Expr) (ifs2 : List Expr) (target iter : Expr) (ifs : List Expr) (scope : Scope) (pos : Pos) (it acc : Value) (env : Env) :
    compTurn (.ListComp elt [⟨target, iter, ifs, 0⟩, ⟨t2, i2, ifs2, 0⟩] scope pos) 0 it acc env =
      clauseTurn target iter ifs it env (nestOf (.ListComp elt [⟨target, iter, ifs, 0⟩, ⟨t2, i2, ifs2, 0⟩] scope pos) i2 acc env (again (.compLoop (.ListComp elt [⟨target, iter, ifs, 0⟩, ⟨t2, i2, ifs2, 0⟩] scope pos) 0 it acc env))) (again (.compLoop (.ListComp elt [⟨target, iter, ifs, 0⟩, ⟨t2, i2, ifs2, 0⟩] scope pos) 0 it acc env)) := by rfl

def Tests (prog : Program) (w : World) (A : Around) (env : Env) (h : Heap) (ifs : List Expr) (b : Bool) : Prop :=
  ∀ (s : Shared) (Q : Bool → Shared → Prop) (E : Value → Shared → Prop), Ext h s.heap → 0 < s.toks → (∀ s', Gr s s' → Q b s') →
    wpAny (model prog w) A (forIn ifs true fun c r => if r = true then do let ok ← isTrue c env (eval c env); pure (ForInStep.yield ok) else pure (ForInStep.yield r)) Q E s

section
variable {prog : Program} {w : World} {A : Around} {env : Env} {h : Heap}
theorem Tests.none : Tests prog w A env h [] true := fun s Q E X T q => wpAny_tests_nil (q s (Gr.refl s))
theorem Tests.one {c : Expr} {b : Bool} (H : Tr prog w A env h c b) : Tests prog w A env h [c] b := fun s Q E X T q => wpAny_tests_one (H s Q E X T q)
end

section
variable {prog : Program} {w : World} {A : Around} {env : Env} {Bk : Addr → Obj → Prop} {Z N₀ N : Addr → Prop} {ad : Str → Addr} {ρ : Vars} {ac : Accs} {I : Addr} {S : Nat → Heap → Prop} {T : Bool} {ds : List D} {s : Shared}

/-- the loop of one clause -/
theorem loopC {e t it : Expr} {ifs : List Expr} {δ : Nat} {acc : Value} {inner : Sem Fin → Sem Fin} {R : Result → Shared → Prop} {ok : D → Prop} {up : D → Vars → Vars} {dl : Accs → Accs}
    (hq : (Code.compLoop e δ (.ref I) acc env).quiet = true) (hfr : (Code.compLoop e δ (.ref I) acc env).isFrame = false) (hw : (Code.compLoop e δ (.ref I) acc env).weight = 0) (hu : (Code.compLoop e δ (.ref I) acc env).cUnits = 0)
    (hturn : compTurn e δ (.ref I) acc env = clauseTurn t it ifs (.ref I) env (inner (again (.compLoop e δ (.ref I) acc env))) (again (.compLoop e δ (.ref I) acc env)))
    (P : Shared → Prop) (hP : ∀ a b, P a → Sm a b → P b) (hP0 : ∀ a, P a → 0 < a.toks) (p0 : P s)
    (W : Walk prog w A (fun a => N a ∧ a ≠ I) T I ds S) (hB : ∀ o, ¬ Bk I o) (hcc : ∀ c ∈ env.cells, c.2 ≠ I) (hN : N I) (L0 : LI env Bk Z N₀ N ad I S 0 ρ ac s.heap)
    (ht : Tgt prog w A env t T ok up dl) (hok : ∀ d ∈ ds, ok d) (Inv : Nat → Vars → Accs → Prop) (i0 : Inv 0 ρ ac)
    (hNF : ∀ k ρ' ac', Inv k ρ' ac' → ∀ a, N a → N₀ a ∧ ¬ Z a ∧ ¬ Mut env ad ac' a)
    (hbody : ∀ k d ρ' ac' Bk' N' s', ds[k]? = some d → Inv k ρ' ac' → (∀ a, N' a → N a) → (∀ a o, Bk a o → Bk' a o) → FSN env Bk' Z N₀ N' ad (up d ρ') (dl ac') s'.heap → P s' →
      ∃ b, Tests prog w A env s'.heap ifs b ∧ (b = false → Inv (k + 1) (up d ρ') (dl ac')) ∧ (b = true → ∀ s₂ more Q E', Gr s' s₂ → (∀ s₃ ρ₃ ac₃, P s₃ → FSN env Bk' Z N₀ N' ad ρ₃ ac₃ s₃.heap → Inv (k + 1) ρ₃ ac₃ → wpAny (model prog w) A more Q E' s₃) → wpAny (model prog w) A (inner more) Q E' s₂))
    (q : ∀ s' ρ' ac', P s' → FSN env Bk Z N₀ N ad ρ' ac' s'.heap → Inv ds.length ρ' ac' → R (.ok .next) s') :
    codeAny (model prog w) A (.compLoop e δ (.ref I) acc env) R s := by
  refine codeAny_loop hq (fun n s' => ∃ k ρ' ac', n = ds.length - k ∧ k ≤ ds.length ∧ P s' ∧ Inv k ρ' ac' ∧ LI env Bk Z N₀ N ad I S k ρ' ac' s'.heap) ?_ ds.length ⟨0, ρ, ac, rfl, Nat.zero_le _, p0, i0, L0⟩
  rintro n s' ⟨k, ρ', ac', rfl, hk, hp, hi, L⟩
  show wpAny _ _ (if (Code.compLoop e δ (.ref I) acc env).isFrame = true then _ else (compTurn e δ (.ref I) acc env).onRaise (fun x => do noteFrame x env; theTreesLotGoes x)) _ _ s'
  rw [hfr, if_neg (by decide), hturn]
  rw [Around.under_of_weight hw hu]
  refine wpAny_noted ?_
  unfold clauseTurn
  refine wpAny_bind (wpAny_standAt (wpAny_bind ?_))
  by_cases hlt : k < ds.length
  · have hd : ds[k]? = some ds[k] := List.getElem?_eq_getElem hlt
    refine W.turn hB hcc hd L (hP0 _ hp) fun v s₂ Bk' m F₂ r st hbk back => ?_
    have cont2 : ∀ (α : Type) (t2 : Sem α) (Q : α → Shared → Prop) (E : Value → Shared → Prop), (∀ s₃, Sm s₂ s₃ → FSN env Bk' Z N₀ (fun a => N a ∧ a ≠ I) ad (up ds[k] ρ') (dl ac') s₃.heap → wpAny (model prog w) A t2 Q E s₃) →
        wpAny (model prog w) A (letOwnedTupleGo t (.ref I) v >>= fun _ => assign t env v >>= fun _ => t2) Q E s₂ := by
      intro α t2 Q E q
      have cont' : wpAny (model prog w) A (assign t env v >>= fun _ => t2) Q E s₂ := wpAny_bind (ht.set (fun _ s' => wpAny (model prog w) A t2 Q E s') E (hok _ (List.getElem_mem hlt)) F₂ (m.pos (hP0 _ hp)) r q)
      refine wpAny_bind ?_
      rcases ht.go with hgo | ⟨hTT, href, elts, c, p, rfl⟩
      · exact wpAny_of_eq (hgo _ _) cont'
      · obtain ⟨a, rfl⟩ := href _ _ _ _ (hok _ (List.getElem_mem hlt)) r
        exact W.go (k + 1) s₂ _ _ _ _ _ _ hTT st cont'
    refine cont2 _ _ _ _ fun s₃ m₃ F₃ => ?_
    obtain ⟨b, ht, kf, kt⟩ := hbody k _ ρ' ac' Bk' _ s₃ hd hi (fun a x => x.1) hbk F₃ (hP _ _ hp (m.trans m₃))
    refine wpAny_bind (ht s₃ _ _ (Ext.refl _) (hP0 _ (hP _ _ hp (m.trans m₃))) fun s₄ g₄ => ?_)
    have fin : ∀ ρ₄ ac₄ s₅, P s₅ → FSN env Bk' Z N₀ (fun a => N a ∧ a ≠ I) ad ρ₄ ac₄ s₅.heap → Inv (k + 1) ρ₄ ac₄ → ∃ m, m < ds.length - k ∧ ∃ k' ρ' ac', m = ds.length - k' ∧ k' ≤ ds.length ∧ P s₅ ∧ Inv k' ρ' ac' ∧ LI env Bk Z N₀ N ad I S k' ρ' ac' s₅.heap :=
      fun ρ₄ ac₄ s₅ hp₄ F₄ i₄ => ⟨ds.length - (k + 1), by omega, k + 1, ρ₄, ac₄, rfl, hlt, hp₄, i₄, back _ _ _ F₄⟩
    cases b with
    | false => exact wpAny_pure ⟨rfl, fin _ _ _ (hP _ _ (hP _ _ hp (m.trans m₃)) g₄.sm) (F₃.grow g₄.keep) (kf rfl)⟩
    | true =>
      exact kt rfl s₄ _ _ _ g₄ fun s₅ ρ₅ ac₅ hp₅ F₅ i₅ => wpAny_pure ⟨rfl, fin _ _ _ hp₅ F₅ i₅⟩
  · have hke : k = ds.length := by omega
    subst hke
    exact W.last hB hcc hN L (hNF _ _ _ hi) fun s₂ m F₂ => wpAny_pure (q s₂ ρ' ac' (hP _ _ hp m) F₂ hi)
end
end Mine

end

-- part Fw9
section
open PySem PySem.W PyProof.Rows
set_option Elab.async false
set_option linter.unusedVariables false
namespace Mine

/-- what the loop of a comprehension has to show -/
def CompRun (prog : Program) (w : World) (A : Around) (env : Env) (h : Heap) (T : Bool) (e : Expr) (scope : Scope) (cl : List (Str × Addr)) (ρc : Vars) (ds out : List D) : Prop :=
  ∀ (C : Addr) (cenv : Env) (Bk : Addr → Obj → Prop) (N : Addr → Prop) (ad : Str → Addr) (I : Addr) (S : Nat → Heap → Prop) (s : Shared) (R : Result → Shared → Prop), cenv = compEnvC scope cl C env →
    (∀ h', (∀ a o, Bk a o → h'.get? a = some o) → Ext h h') → Walk prog w A (fun a => N a ∧ a ≠ I) T I ds S → (∀ o, ¬ Bk I o) → (∀ c ∈ cenv.cells, c.2 ≠ I) → N I →
    (∀ a, N a → True ∧ ¬ False ∧ ¬ Mut cenv ad [("", ([] : List D))] a) → LI cenv Bk (fun _ => False) (fun _ => True) N ad I S 0 ρc [("", [])] s.heap → 0 < s.toks →
    (∀ s' ρ', Sm s s' → FSN cenv Bk (fun _ => False) (fun _ => True) N ad ρ' [("", out)] s'.heap → R (.ok .next) s') → codeAny (model prog w) A (.compLoop e 0 (.ref I) (.ref (ad "")) cenv) R s

structure Cap (env : Env) (scope : Scope) (cl : List (Str × Addr)) (ρ ρc : Vars) : Prop where
  clos : closureFor scope env = pure cl
  cells : ∀ c ∈ cl, c ∈ env.cells
  kind : scope.kind = .function
  names : ∀ x ∈ scope.names, x.2 = .local → scope.names.lookup x.1 = some .local
  nocell : ∀ x ∈ scope.names, x.2 ≠ .cell
  cap : ∀ x d, ρc x = some d → ρ x = some d ∧ env.kindOf x = some .cell ∧ (compEnvC scope cl 0 env).kindOf x = some .cell ∧ cl.lookup x = env.cells.lookup x

section
variable {prog : Program} {w : World} {A : Around} {E : Value → Shared → Prop} {N : Addr → Prop} {env : Env} {h : Heap} {T : Bool}

theorem comp_core {elt t it : Expr} {ifs : List Expr} {gs : List Comprehension} {scope : Scope} {cl : List (Str × Addr)} {pos p' : Pos} {use : Option (Value → Sem Unit)} {Q : Value → Shared → Prop} {ρ ρc : Vars} {ds out : List D} {s : Shared}
    (hk : Cap env scope cl ρ ρc) (hN : New N h) (hv : ∀ x d, ρ x = some d → ∃ v, Has env h x v ∧ Rep N h d v) (hcells : ∀ c ∈ env.cells, ∃ v, h.IsCell c.2 v) (hI : EvIt prog w A N env h T it ds)
    (hrun : CompRun prog w A env h T (.ListComp elt (⟨t, it, ifs, 0⟩ :: gs) scope pos) scope cl ρc ds out) (X : Ext h s.heap) (hT : 0 < s.toks)
    (hpost : ∀ s' C m a vs n, Gr s s' → s.heap.get? C = none → N C → s'.heap.Ns C m → IsL s'.heap a vs.toArray n → RepL (fun b => N b ∧ b ≠ C) s'.heap out vs → N a → a ≠ C → compPost (model prog w) A E use Q (.ref a) C (.ok .next) s')
    (hs : ∀ x, foldedSetIterable it env x = pure x := by intro _; rfl) :
    wpAny (model prog w) A (comprehension (.ListComp elt (⟨t, it, ifs, 0⟩ :: gs) scope pos) scope env p' (newList []) false (eval it env) use) Q E s := by
  refine wpAny_comprehension_free (use := use) rfl hs hk.clos hk.kind hk.names (hI s _ _ X hT fun I s₂ g hnI hlI hW => ?_)
  refine wpAny_newObj_type (wpAny_newFunctionEnv hk.nocell (by intro y hy; simp at hy) (fun h₁ hns₁ hsb₁ => ?_) hk.kind)
  dsimp only at hns₁ hsb₁ ⊢
  generalize hH2 : s₂.heap.push { cls := .type "list", dict := none, data := .seq ([] : List Value).toArray } = H2 at hns₁ hsb₁ ⊢
  have hC : H2.objs.size = s₂.heap.objs.size + 1 := by rw [← hH2, Heap.size_push]
  generalize hCe : H2.objs.size = C at hns₁ hsb₁ hC ⊢
  generalize hDe : s₂.heap.objs.size = Da at hC ⊢
  have hDC : Da ≠ C := by omega
  have old : ∀ b o, s₂.heap.get? b = some o → b ≠ C ∧ b ≠ Da := fun b o e => by
    have h1 : b < Da := hDe ▸ Heap.lt_size e
    exact ⟨by rw [hC]; exact Nat.ne_of_lt (Nat.lt_succ_of_lt h1), Nat.ne_of_lt h1⟩
  have up : ∀ b o, s₂.heap.get? b = some o → h₁.get? b = some o := fun b o e =>
    hsb₁.extBut b o (old b o e).1 (Heap.get?_push_of_some _ (hH2 ▸ Heap.get?_push_of_some _ e))
  have hDl : IsL h₁ Da ([] : List Value).toArray 0 := hsb₁.extBut _ _ hDC (Heap.get?_push_of_some _ (by rw [← hH2, ← hDe]; exact Heap.get?_push_size _ rfl))
  have noneC : s₂.heap.get? C = none := get_none (by omega)
  have noneD : s₂.heap.get? Da = none := get_none (by omega)
  have back : ∀ a, s₂.heap.get? a = none → s.heap.get? a = none ∧ h.get? a = none := fun a ha => by
    have h1 : s.heap.get? a = none := by
      cases e : s.heap.get? a with
      | none => rfl
      | some o => rw [g.keep _ _ e] at ha; cases ha
    refine ⟨h1, ?_⟩
    cases e : h.get? a with
    | none => rfl
    | some o => rw [X _ _ e] at h1; cases h1
  obtain ⟨oI, hoI⟩ : ∃ o, s₂.heap.get? I = some o := by
    cases e : s₂.heap.get? I with
    | none => exact absurd e hlI
    | some o => exact ⟨o, rfl⟩
  have NI : N I := hN I (by
    cases e : h.get? I with
    | none => rfl
    | some o => rw [X _ _ e] at hnI; cases hnI)
  obtain ⟨S, W, hS⟩ := hW (fun a => (N a ∧ a ≠ Da ∧ a ≠ C) ∧ a ≠ I) fun b o hb hne e => ⟨⟨hb, (old b o e).2, (old b o e).1⟩, hne⟩
  have hS₁ : S 0 h₁ := W.frame _ _ _ hS fun b o _ e => up b o e
  have Xs : Ext h h₁ := fun b o e => up b o (g.keep b o (X b o e))
  have liveC : ∃ o, h₁.get? C = some o := by obtain ⟨o, _, _, ho, _⟩ := hns₁; exact ⟨o, ho⟩
  have hmc : mcells (compEnvC scope cl C env) = [] := rfl
  have notmut : ∀ (ac : List D) a, a ≠ Da → a ≠ C → ¬ Mut (compEnvC scope cl C env) (fun _ => Da) [("", ac)] a := fun ac a h1 h2 hM => by
    rcases hM with e | ⟨c, hc, _⟩ | ⟨e, he, e'⟩
    · exact h2 e
    · rw [hmc] at hc; cases hc
    · exact h1 e'
  have oldc : ∀ c ∈ cl, ∃ v, h.IsCell c.2 v := fun c hc => hcells c (hk.cells c hc)
  have FS : FSN (compEnvC scope cl C env) (fun a o => s.heap.get? a = some o) (fun _ => False) (fun _ => True) (fun a => (N a ∧ a ≠ Da ∧ a ≠ C) ∧ a ≠ I) (fun _ => Da) ρc [("", [])] h₁ := by
    refine ⟨by simp [compEnvC, relabel, hk.kind], fun a ha => ⟨trivial, id, notmut _ a ha.1.2.1 ha.1.2.2⟩, fun a ha => ?_, fun a o e => up a o (g.keep _ _ e), fun a o e => notmut _ a (old a o (g.keep _ _ e)).2 (old a o (g.keep _ _ e)).1, ⟨_, hns₁⟩,
      fun c hc => ?_, by rw [hmc]; exact .nil, fun c hc => ?_, fun x d e => ?_, fun e he => ?_, fun e he => ?_, fun e he f hf hne => ?_, fun e he f hf _ => ?_, fun e he a ha => ⟨trivial, id⟩⟩
    · have hn2 : s₂.heap.get? a = none := by
        cases q : s₂.heap.get? a with
        | none => rfl
        | some o => rw [up _ _ q] at ha; cases ha
      refine ⟨⟨hN a (back a hn2).2, fun e => ?_, fun e => ?_⟩, fun e => ?_⟩
      · subst e; rw [show h₁.get? a = _ from hDl] at ha; cases ha
      · subst e; obtain ⟨o, ho⟩ := liveC; rw [ho] at ha; cases ha
      · subst e; rw [up _ _ hoI] at ha; cases ha
    · obtain ⟨v, hv⟩ := oldc c hc
      exact ⟨v, hv.keeps Xs⟩
    · obtain ⟨v, o, ho, _⟩ := oldc c hc
      exact (old _ _ (g.keep _ _ (X _ _ ho))).1
    · obtain ⟨e1, e2, e3, e4⟩ := hk.cap x d e
      obtain ⟨v, H, r⟩ := hv x d e1
      refine ⟨v, ?_, r.map fun b o hb e => ⟨⟨⟨hb, (old _ _ (g.keep _ _ (X _ _ e))).2, (old _ _ (g.keep _ _ (X _ _ e))).1⟩, fun q => ?_⟩, Xs _ _ e⟩⟩
      · cases H with
        | loc a _ _ => rw [e2] at a; cases a
        | cell a b c => exact .cell e3 (e4.trans b) (c.keeps Xs)
      · subst q; rw [X _ _ e] at hnI; cases hnI
    · rcases List.mem_singleton.mp he with rfl
      exact ⟨fun q => absurd rfl q, [], 0, hDl, RepL.nil⟩
    · refine ⟨hDC, fun c hc => ?_⟩
      obtain ⟨v, o, ho, _⟩ := oldc c hc
      exact (old _ _ (g.keep _ _ (X _ _ ho))).2
    · rcases List.mem_singleton.mp he with rfl
      rcases List.mem_singleton.mp hf with rfl
      exact absurd rfl hne
    · rw [List.mem_singleton.mp he, List.mem_singleton.mp hf]
  have hIc : I ≠ Da ∧ I ≠ C := ⟨(old _ _ hoI).2, (old _ _ hoI).1⟩
  have loop : codeAny (model prog w) A (.compLoop (.ListComp elt (⟨t, it, ifs, 0⟩ :: gs) scope pos) 0 (.ref I) (.ref Da) (compEnvC scope cl C env)) (compPost (model prog w) A E use Q (.ref Da) C) { s₂ with heap := h₁, toks := s₂.toks + ([] : List (Str × Value)).length } := by
    refine hrun C _ (fun a o => s.heap.get? a = some o) (fun a => N a ∧ a ≠ Da ∧ a ≠ C) (fun _ => Da) I S _ _ rfl (fun h' k a o e => k a o (X a o e)) W (fun o e => ?_) (fun c hc e => ?_) ⟨NI, hIc.1, hIc.2⟩ (fun a ha => ⟨trivial, id, notmut _ a ha.2.1 ha.2.2⟩)
      ⟨FS, hS₁, notmut _ _ hIc.1 hIc.2⟩ (Nat.lt_of_lt_of_le hT (Nat.le_trans g.toks (Nat.le_add_right ..))) fun s' ρ' m F => ?_
    · rw [hnI] at e; cases e
    · obtain ⟨v, o, ho, _⟩ := oldc c hc
      rw [e] at ho; rw [X _ _ ho] at hnI; cases hnI
    · obtain ⟨mm, hn⟩ := F.ns
      obtain ⟨_, vs, n, hl, rl⟩ := F.accs _ (List.mem_singleton.mpr rfl)
      exact hpost s' C mm Da vs n ⟨F.keep, m.gens.trans g.gens, m.os.trans g.os, m.drawn.trans g.drawn, Nat.le_trans g.toks (Nat.le_trans (Nat.le_add_right ..) m.toks)⟩ (back _ noneC).1 (hN _ (back _ noneC).2) hn hl
        (rl.map fun b o hb e => ⟨⟨hb.1, hb.2.2⟩, e⟩) (hN _ (back _ noneD).2) hDC
  exact codeAny_compStart_list loop (W.self 0 _ _ _ hS₁ loop)

theorem Ev.comp {elt t it : Expr} {ifs : List Expr} {gs : List Comprehension} {scope : Scope} {cl : List (Str × Addr)} {pos : Pos} {ρ ρc : Vars} {ds out : List D}
    (hk : Cap env scope cl ρ ρc) (hN : New N h) (hv : ∀ x d, ρ x = some d → ∃ v, Has env h x v ∧ Rep N h d v) (hcells : ∀ c ∈ env.cells, ∃ v, h.IsCell c.2 v) (hI : EvIt prog w A N env h T it ds)
    (hrun : CompRun prog w A env h T (.ListComp elt (⟨t, it, ifs, 0⟩ :: gs) scope pos) scope cl ρc ds out)
    (hs : ∀ x, foldedSetIterable it env x = pure x := by intro _; rfl) :
    Ev prog w A N env h (.ListComp elt (⟨t, it, ifs, 0⟩ :: gs) scope pos) (.list out) := fun s X hT Q E q => by
  rw [eval_ListComp]
  refine comp_core (use := none) hk hN hv hcells hI hrun X hT (fun s' C m a vs n g hC hNC hn hl rl ha hac => ⟨m, hn, fun h' hs' => ?_⟩) hs
  refine q _ _ ⟨fun b o e => hs'.extBut b o (fun q => by rw [q, hC] at e; cases e) (g.keep b o e), g.gens, g.os, g.drawn, g.toks⟩ (Rep.list_iff.mpr ⟨a, vs, n, rfl, ha, (hs'.extBut _ _ hac hl), rl.map fun b o hb e => ⟨hb.1, hs'.extBut _ _ hb.2 e⟩⟩)

theorem Ext.new {h h' : Heap} (X : Ext h h') {a : Addr} (ha : h'.get? a = none) : h.get? a = none := by
  cases e : h.get? a with
  | none => rfl
  | some o => rw [X _ _ e] at ha; cases ha

/-- the stores exchanged -/
theorem FSN.assignC {Bk : Addr → Obj → Prop} {Z N₀ : Addr → Prop} {ad : Str → Addr} {ac : Accs} {s : Shared} {elt t it : Expr} {ifs : List Expr} {gs : List Comprehension} {scope : Scope} {cl : List (Str × Addr)} {pos py p : Pos} {y : Str} {ρ ρc : Vars} {ds out : List D} {Q : Flow → Shared → Prop}
    (F : FSN env Bk Z N₀ N ad ρ ac s.heap) (hT : 0 < s.toks) (hy : Own env y) (hk : Cap env scope cl ρ ρc) (hI : EvIt prog w A N env s.heap T it ds)
    (hrun : CompRun prog w A env s.heap T (.ListComp elt (⟨t, it, ifs, 0⟩ :: gs) scope pos) scope cl ρc ds out)
    (q : ∀ s', Sm s s' → FSN env Bk Z N₀ N ad (ρ.put y (.list out)) (ac.del y) s'.heap → Q .next s')
    (hsw : swapsWith (.ListComp elt (⟨t, it, ifs, 0⟩ :: gs) scope pos) (some (.Name y py)) p.line env = pure true := by rfl) (hs : ∀ x, foldedSetIterable it env x = pure x := by intro _; rfl) :
    wpAny (model prog w) A (exec (.Assign [.Name y py] (.ListComp elt (⟨t, it, ifs, 0⟩ :: gs) scope pos) p) env) Q E s := by
  rw [exec_Assign_Name_used _ _ _ _ hsw]
  refine wpAny_bind (wpAny_standAt (wpAny_bind ?_))
  show wpAny _ A (do let _ ← comprehension (.ListComp elt (⟨t, it, ifs, 0⟩ :: gs) scope pos) scope env _ (newList []) false (eval it env) (some (PySem.assign (.Name y py) env))) _ _ s
  refine wpAny_bind (wpAny_mono (comp_core (use := some (PySem.assign (.Name y py) env)) (Q := fun _ s' => Q .next s') hk F.new F.vars F.cells hI hrun (Ext.refl _) hT (fun s' C m a vs n g hC hNC hn hl rl ha hac => ?_) hs)
    (fun _ s' hq => wpAny_pure (wpAny_pure hq)) fun _ _ e => e)
  have F1 := F.narrow (P := fun b => b ≠ C) (fun b hb _ e => hb (e ▸ hC)) (fun b hb e => by subst e; obtain ⟨o, _, _, ho, _⟩ := hn; rw [ho] at hb; cases hb) g.keep
  show wpAny _ A (PySem.assign (.Name y py) env (.ref a)) _ _ s'
  have hMC := F.notMut_none hC
  refine PyProof.Rows.assign_Name (F1.store0 hy fun s₂ b m₂ hb hsb F₂ H₂ k₂ => ?_)
  have hbC : C ≠ b := fun e => hMC (e ▸ hb.more)
  have F₃ := F₂.put H₂ (k₂ (.list out) _ (Rep.list_iff.mpr ⟨a, vs, n, rfl, ⟨ha, hac⟩, hl, rl⟩))
  have sub : ∀ b, Mut env ad (ac.del y) b → Mut env ad ac b := fun b hM => by
    rcases hM with e | e | ⟨e, he, e'⟩
    · exact .inl e
    · exact .inr (.inl e)
    · exact .inr (.inr ⟨e, (List.mem_filter.mp he).1, e'⟩)
  refine ⟨m, hn.sameBut hsb hbC, fun h' hs' => q _ (Sm.trans g.sm ⟨m₂.gens, m₂.os, m₂.drawn, m₂.toks⟩) ?_⟩
  exact F₃.extBut hs'.extBut (fun _ x => x.1) (fun x => x.2 rfl) (fun b hb => ⟨(F.sub b hb).1, (F.sub b hb).2.1, fun hM => (F.sub b hb).2.2 (sub b hM)⟩) (fun _ => hNC) (F.notBk_none hC) (fun hM => hMC (sub _ hM)) (F.notCell_none hC)
end
end Mine

end

-- part Fw10
section
open PySem PySem.W PyProof.Rows
set_option Elab.async false
set_option linter.unusedVariables false
namespace Mine

def Le (ρ ρ' : Vars) : Prop := ∀ y z, ρ y = some z → ρ' y = some z
theorem Le.refl (ρ : Vars) : Le ρ ρ := fun _ _ e => e
theorem Le.trans {a b c : Vars} (x : Le a b) (y : Le b c) : Le a c := fun z u e => y z u (x z u e)
theorem Le.put {ρ ρ' : Vars} (x : Str) (d : D) (l : Le ρ ρ') : Le (ρ.put x d) (ρ'.put x d) := fun y z e => by
  unfold Vars.put at *
  split at e
  · rename_i h; rw [if_pos h]; exact e
  · rename_i h; rw [if_neg h]; exact l y z e
theorem Le.skip {ρ ρ' : Vars} {x : Str} (d : D) (hx : ρ x = none) (l : Le ρ ρ') : Le ρ (ρ'.put x d) := fun y z e => by
  unfold Vars.put
  split
  · rename_i h; rw [h, hx] at e; cases e
  · exact l y z e
theorem Le.upT {ρ ρ' : Vars} {x y : Str} {d : D} (hd : ∃ a b, d = .tup [a, b]) (l : Le ρ ρ') : Le (upT x y d ρ) (upT x y d ρ') := by
  obtain ⟨a, b, rfl⟩ := hd
  exact (l.put x a).put y b
theorem Le.skipT {ρ ρ' : Vars} {x y : Str} {d : D} (hd : ∃ a b, d = .tup [a, b]) (hx : ρ x = none) (hy : ρ y = none) (l : Le ρ ρ') : Le ρ (Mine.upT x y d ρ') := by
  obtain ⟨a, b, rfl⟩ := hd
  exact (l.skip a hx).skip b hy

section
variable {prog : Program} {w : World} {A : Around} {E : Value → Shared → Prop} {env : Env} {Bk : Addr → Obj → Prop} {Z N₀ N : Addr → Prop} {ad : Str → Addr} {ρ : Vars} {s : Shared}

theorem emitStep {elt : Expr} {more : Sem Fin} {out : List D} {d : D} {Q : Fin → Shared → Prop} (F : FSN env Bk Z N₀ N ad ρ [("", out)] s.heap) (hT : 0 < s.toks) (hE : Ev prog w A N env s.heap elt d) (hsz : out.length ≤ sizeLine)
    (q : ∀ s', Sm s s' → FSN env Bk Z N₀ N ad ρ [("", out ++ [d])] s'.heap → wpAny (model prog w) A more Q E s') : wpAny (model prog w) A (emitOf elt (.ref (ad "")) env more) Q E s := by
  unfold emitOf
  refine wpAny_bind (wpAny_bind (hE s (Ext.refl _) hT _ _ fun v s₁ g r => wpAny_bind ?_))
  have F₁ := F.grow g.keep
  obtain ⟨_, vs, n, hl, rl⟩ := F₁.accs _ (List.mem_singleton.mpr rfl)
  refine wpAny_list_append_plain (items := vs.toArray) ⟨n, hl⟩ (fun h' hl' hs' => wpAny_pure ?_) (by simp [rl.length]; exact hsz)
  obtain ⟨n', hl'⟩ := hl'
  refine q _ (g.sm.trans ⟨.refl _, rfl, rfl, Nat.le_refl _⟩) ?_
  have F₂ := F₁.accSet (x := "") (ds := out) (ds' := out ++ [d]) (vs' := vs ++ [v]) (n' := n') (List.mem_singleton.mpr rfl) hs' (by simpa using hl') (rl.append (.cons r .nil))
  simpa [Accs.put] using F₂
end

section
variable {prog : Program} {w : World} {A : Around} {E : Value → Shared → Prop} {N : Addr → Prop} {env : Env} {h : Heap} {T : Bool}

theorem mut_anon {env : Env} {ad : Str → Addr} {o o' : List D} {a : Addr} (hM : Mut env ad [("", o)] a) : Mut env ad [("", o')] a := by
  rcases hM with e | e | ⟨e, he, e'⟩
  · exact .inl e
  · exact .inr (.inl e)
  · rcases List.mem_singleton.mp he with rfl
    exact .inr (.inr ⟨_, List.mem_singleton.mpr rfl, e'⟩)

theorem CompRun.one {elt t it : Expr} {ifs : List Expr} {scope : Scope} {cl : List (Str × Addr)} {pos : Pos} {ρc : Vars} {ds : List D} {ok : D → Prop} {up : D → Vars → Vars} {dl : Accs → Accs} (p : D → Bool) (f : D → D)
    (ht : ∀ C, Tgt prog w A (compEnvC scope cl C env) t T ok up dl) (hok : ∀ d ∈ ds, ok d) (hdl : ∀ o : List D, dl [(("" : Str), o)] = [(("" : Str), o)])
    (mono : ∀ d ρ ρ', ok d → Le ρ ρ' → Le (up d ρ) (up d ρ')) (skip : ∀ d ρ', ok d → Le ρc ρ' → Le ρc (up d ρ')) (hsz : ds.length ≤ sizeLine)
    (body : ∀ C Bk N ad ac (s : Shared) d, d ∈ ds → FSN (compEnvC scope cl C env) Bk (fun _ => False) (fun _ => True) N ad (up d ρc) ac s.heap → Ext h s.heap → 0 < s.toks →
      Tests prog w A (compEnvC scope cl C env) s.heap ifs (p d) ∧ (p d = true → Ev prog w A N (compEnvC scope cl C env) s.heap elt (f d))) :
    CompRun prog w A env h T (.ListComp elt [⟨t, it, ifs, 0⟩] scope pos) scope cl ρc ds ((ds.filter p).map f) := by
  rintro C cenv Bk N ad I S s R rfl hBk W hB hcc hN hNF L0 hT q
  refine loopC rfl rfl rfl rfl (turn_one ..) (fun s' => Sm s s') (fun _ _ x y => x.trans y) (fun _ x => x.pos hT) (Sm.refl s) W hB hcc hN L0 (ht C) hok (fun k ρ' ac' => Le ρc ρ' ∧ ac' = [(("" : Str), ((ds.take k).filter p).map f)]) ⟨Le.refl _, by simp⟩
    (fun k ρ' ac' hi a ha => ⟨trivial, id, fun hM => (hNF a ha).2.2 (mut_anon (hi.2 ▸ hM))⟩) (fun k d ρ' ac' Bk' N' s' hd hi hN' hbk F m => ?_) (fun s' ρ' ac' m F hi => q s' ρ' m ?_)
  · obtain ⟨hle, rfl⟩ := hi
    have hmem := List.mem_of_getElem? hd
    rw [hdl] at F
    have F' := F.forget (ρ' := up d ρc) (mono d _ _ (hok d hmem) hle)
    have hT' := m.pos hT
    obtain ⟨tests, hev⟩ := body C Bk' N' ad _ s' d hmem F' (hBk _ fun a o b => F.keep a o (hbk a o b)) hT'
    have htk : ds.take (k + 1) = ds.take k ++ [d] := by rw [List.take_add_one, hd]; rfl
    refine ⟨p d, tests, fun hp => ⟨skip _ _ (hok d hmem) hle, by rw [hdl, htk, List.filter_append]; simp [hp]⟩, fun hp s₂ more Q E' g kont => ?_⟩
    refine emitStep (F.grow g.keep) (g.sm.pos hT') (fun s₃ X => hev hp s₃ fun b o e => X b o (g.keep b o e)) ?_ fun s₃ m₃ F₃ => kont s₃ _ _ (m.trans (g.sm.trans m₃)) F₃ ⟨skip _ _ (hok d hmem) hle, by rw [htk, List.filter_append]; simp [hp]⟩
    rw [List.length_map]
    exact Nat.le_trans (List.length_filter_le _ _) (Nat.le_trans (by rw [List.length_take]; exact Nat.min_le_right ..) hsz)
  · obtain ⟨_, rfl⟩ := hi
    simpa using F

theorem start_in {elt t it i2 t2 : Expr} {ifs ifs2 : List Expr} {scope : Scope} {pos : Pos} {itv acc : Value} {R : Result → Shared → Prop} {s : Shared}
    (h0 : codeAny (model prog w) A (.compLoop (.ListComp elt [⟨t, it, ifs, 0⟩, ⟨t2, i2, ifs2, 0⟩] scope pos) 1 itv acc env) R s)
    (h : wpAny (model prog w) A (pyIter itv) (fun it' s' => codeAny (model prog w) A (.compLoop (.ListComp elt [⟨t, it, ifs, 0⟩, ⟨t2, i2, ifs2, 0⟩] scope pos) 1 it' acc env) R s')
      (notedBy (model prog w) A env fun x s' => R (.error x) s') s) :
    codeAny (model prog w) A (.compStart (.ListComp elt [⟨t, it, ifs, 0⟩, ⟨t2, i2, ifs2, 0⟩] scope pos) 1 itv acc env) R s := by
  refine codeAny_of_tree ?_
  show wpAny _ _ ((compStart (.ListComp elt [⟨t, it, ifs, 0⟩, ⟨t2, i2, ifs2, 0⟩] scope pos) 1 itv acc env).onRaise (fun x => do noteFrame x env; standAt theWindowsPlace)) _ _ s
  refine wpAny_notedAt ?_
  unfold compStart
  show wpAny _ _ (ask >>= _) _ _ s
  refine wpAny_bind (wpAny_askSetting (wpAny_ite ?_))
  split
  · first
      | exact wpAny_bind (wpAny_pure (wpAny_pure (And.intro rfl h0)))
      | exact wpAny_pure (And.intro rfl h0)
  · first
      | exact wpAny_bind (wpAny_rule (wpAny_bind (wpAny_standAt (wpAny_bind (wpAny_mono h (fun it' s' h' => wpAny_pure (And.intro rfl h')) fun _ _ x => x)))))
      | (refine wpAny_bind (wpAny_rule ?_); show wpAny _ _ (standAt i2.pos >>= _) _ _ s; exact wpAny_bind (wpAny_standAt (wpAny_bind (wpAny_mono h (fun it' s' h' => wpAny_pure (And.intro rfl h')) fun _ _ x => x))))

theorem CompRun.two {elt t it t2 i2 : Expr} {scope : Scope} {cl : List (Str × Addr)} {pos : Pos} {ρc : Vars} {ds : List D} {T2 : Bool} {ok ok2 : D → Prop} {up up2 : D → Vars → Vars} {dl dl2 : Accs → Accs} (ds2 : D → List D) (f : D → D → D)
    (ht : ∀ C, Tgt prog w A (compEnvC scope cl C env) t T ok up dl) (hok : ∀ d ∈ ds, ok d) (hdl : ∀ o : List D, dl [(("" : Str), o)] = [(("" : Str), o)])
    (ht2 : ∀ C, Tgt prog w A (compEnvC scope cl C env) t2 T2 ok2 up2 dl2) (hok2 : ∀ d ∈ ds, ∀ e ∈ ds2 d, ok2 e) (hdl2 : ∀ o : List D, dl2 [(("" : Str), o)] = [(("" : Str), o)])
    (mono : ∀ d ρ ρ', ok d → Le ρ ρ' → Le (up d ρ) (up d ρ')) (skip : ∀ d ρ', ok d → Le ρc ρ' → Le ρc (up d ρ'))
    (mono2 : ∀ d ρ ρ', ok2 d → Le ρ ρ' → Le (up2 d ρ) (up2 d ρ')) (skip2 : ∀ d e ρ', ok d → ok2 e → Le (up d ρc) ρ' → Le (up d ρc) (up2 e ρ')) (hsz : (ds.flatMap fun d => (ds2 d).map (f d)).length ≤ sizeLine)
    (body1 : ∀ C Bk N ad ac (s : Shared) d, d ∈ ds → FSN (compEnvC scope cl C env) Bk (fun _ => False) (fun _ => True) N ad (up d ρc) ac s.heap → Ext h s.heap → 0 < s.toks → EvIt prog w A N (compEnvC scope cl C env) s.heap T2 i2 (ds2 d))
    (body2 : ∀ C Bk N ad ac (s : Shared) d e, d ∈ ds → e ∈ ds2 d → FSN (compEnvC scope cl C env) Bk (fun _ => False) (fun _ => True) N ad (up2 e (up d ρc)) ac s.heap → Ext h s.heap → 0 < s.toks → Ev prog w A N (compEnvC scope cl C env) s.heap elt (f d e))
    (hs : ∀ C x, foldedSetIterable i2 (compEnvC scope cl C env) x = pure x := by intro _ _; rfl) :
    CompRun prog w A env h T (.ListComp elt [⟨t, it, [], 0⟩, ⟨t2, i2, [], 0⟩] scope pos) scope cl ρc ds (ds.flatMap fun d => (ds2 d).map (f d)) := by
  rintro C cenv Bk N ad I S s R rfl hBk W hB hcc hN hNF L0 hT q
  refine loopC rfl rfl rfl rfl (turn_out ..) (fun s' => Sm s s') (fun _ _ x y => x.trans y) (fun _ x => x.pos hT) (Sm.refl s) W hB hcc hN L0 (ht C) hok (fun k ρ' ac' => Le ρc ρ' ∧ ac' = [(("" : Str), (ds.take k).flatMap fun d => (ds2 d).map (f d))]) ⟨Le.refl _, by simp⟩
    (fun k ρ' ac' hi a ha => ⟨trivial, id, fun hM => (hNF a ha).2.2 (mut_anon (hi.2 ▸ hM))⟩) (fun k d ρ' ac' Bk' N' s' hd hi hN' hbk F m => ?_) (fun s' ρ' ac' m F hi => q s' ρ' m ?_)
  · obtain ⟨hle, rfl⟩ := hi
    have hmem := List.mem_of_getElem? hd
    rw [hdl] at F
    have F' := F.forget (ρ' := up d ρc) (mono d _ _ (hok d hmem) hle)
    have hT' := m.pos hT
    have htk : ds.take (k + 1) = ds.take k ++ [d] := by rw [List.take_add_one, hd]; rfl
    have hsz' : ∀ j, (((ds.take k).flatMap fun d => (ds2 d).map (f d)) ++ ((ds2 d).take j).map (f d)).length ≤ sizeLine := fun j => by
      refine Nat.le_trans ?_ hsz
      have hk : k < ds.length := (List.getElem?_eq_some_iff.mp hd).1
      have e1 : ds = ds.take k ++ (d :: ds.drop (k + 1)) := by
        conv => lhs; rw [← List.take_append_drop k ds]
        congr 1
        rw [List.drop_eq_getElem_cons hk]
        congr 1
        exact (List.getElem?_eq_some_iff.mp hd).2
      conv => rhs; rw [e1]
      rw [List.flatMap_append, List.flatMap_cons, List.length_append, List.length_append, List.length_append, List.length_map, List.length_map, List.length_take]
      have := Nat.min_le_right j (ds2 d).length
      omega
    refine ⟨true, Tests.none, fun hp => (by cases hp), fun hp s₂ more Q E' g kont => ?_⟩
    have T₂ := g.sm.pos hT'
    have F₂ := F'.grow g.keep
    have X₂ : Ext h s₂.heap := fun b o e => g.keep b o (hBk _ (fun a o b => F.keep a o (hbk a o b)) b o e)
    unfold nestOf
    refine wpAny_bind (wpAny_mono (body1 C Bk' N' ad _ s₂ d hmem F₂ X₂ T₂ s₂ _ _ (Ext.refl _) T₂ fun I2 s₃ g₃ hnI hlI hW => ?_) (fun x s₃ h₃ => wpAny_bind (wpAny_standAt (wpAny_bind (wpAny_of_eq (hs C x) (wpAny_bind (wpAny_holding h₃)))))) fun _ _ x => x)
    obtain ⟨S2, W2, hS2⟩ := hW (fun a => N' a ∧ a ≠ I2) fun b o hb hne _ => ⟨hb, hne⟩
    have L2 := LI.start (N := N') F₂ g₃.keep hnI hS2 hlI
    refine wpAny_bind (wpAny_runOwn ?_)
    have loop : codeAny (model prog w) A (.compLoop (.ListComp elt [⟨t, it, [], 0⟩, ⟨t2, i2, [], 0⟩] scope pos) 1 (.ref I2) (.ref (ad "")) (compEnvC scope cl C env)) (fun r s' => match r with | .ok f => wpAny (model prog w) A more Q E' s' | .error e => cameBackBy (model prog w) A (compEnvC scope cl C env) E' e s') s₃ := by
      refine loopC rfl rfl rfl rfl (turn_in ..) (fun s' => Sm s s') (fun _ _ x y => x.trans y) (fun _ x => x.pos hT) (m.trans (g.sm.trans g₃.sm)) W2 (F₂.notBk_none hnI) (F₂.notCell_none hnI) (F₂.new _ hnI) L2 (ht2 C) (hok2 d hmem)
        (fun j ρ' ac' => Le (up d ρc) ρ' ∧ ac' = [(("" : Str), ((ds.take k).flatMap fun d => (ds2 d).map (f d)) ++ ((ds2 d).take j).map (f d))]) ⟨Le.refl _, by simp⟩
        (fun k ρ' ac' hi a ha => ⟨(F₂.sub a ha).1, (F₂.sub a ha).2.1, fun hM => (F₂.sub a ha).2.2 (mut_anon (hi.2 ▸ hM))⟩) (fun j e ρ₃ ac₃ Bk₃ N₃ s₄ he hi hN₃ hbk₃ F₃ m₃ => ?_) (fun s₄ ρ₄ ac₄ m₄ F₄ hi => ?_)
      · obtain ⟨hle₃, rfl⟩ := hi
        have hmem2 := List.mem_of_getElem? he
        rw [hdl2] at F₃
        have F₃' := F₃.forget (ρ' := up2 e (up d ρc)) (mono2 e _ _ (hok2 d hmem e hmem2) hle₃)
        have htk2 : (ds2 d).take (j + 1) = (ds2 d).take j ++ [e] := by rw [List.take_add_one, he]; rfl
        have X₃ : Ext h s₄.heap := hBk _ fun a o b => F₃.keep a o (hbk₃ a o (hbk a o b))
        refine ⟨true, Tests.none, fun hp => (by cases hp), fun _ s₅ more' Q' E'' g₅ kont' => ?_⟩
        have T₄ := m₃.pos hT
        refine emitStep (F₃.grow g₅.keep) (g₅.sm.pos T₄) (fun s₆ X => body2 C Bk₃ N₃ ad _ s₄ d e hmem hmem2 F₃' X₃ T₄ s₆ fun b o e => X b o (g₅.keep b o e)) (hsz' j) fun s₆ m₆ F₆ =>
          kont' s₆ _ _ (m₃.trans (g₅.sm.trans m₆)) F₆ ⟨skip2 _ _ _ (hok d hmem) (hok2 d hmem e hmem2) hle₃, by rw [htk2]; simp⟩
      · obtain ⟨hle₄, rfl⟩ := hi
        refine kont s₄ _ _ m₄ F₄ ⟨(skip d _ (hok d hmem) (Le.refl _)).trans hle₄, ?_⟩
        rw [htk]; simp
    exact start_in loop (W2.self 0 _ _ _ hS2 loop)
  · obtain ⟨_, rfl⟩ := hi
    simpa using F
end
end Mine

end

-- part Fw11
section
open PySem PySem.W PyProof.Rows
set_option Elab.async false
set_option linter.unusedVariables false
namespace Mine

/-- room for n more calls -/
structure Rm (A : Around) (n : Nat) : Prop where
  hh : A.handled = none
  depth : A.depth + n ≤ 900
  units : A.units + 3 * n ≤ 9000
theorem Rm.deeper {A : Around} {n : Nat} (r : Rm A (n + 1)) (env : Env) : Rm (A.deeper env) n := ⟨r.hh, by have := r.depth; show A.depth + 1 + n ≤ 900; omega, by have := r.units; show A.units + 3 + 3 * n ≤ 9000; omega⟩
theorem Rm.le {A : Around} {n m : Nat} (r : Rm A n) (h : m ≤ n) : Rm A m := ⟨r.hh, by have := r.depth; omega, by have := r.units; omega⟩
theorem Rm.room {A : Around} {n : Nat} (r : Rm A n) : A.depth < recursionLimit := Nat.lt_of_le_of_lt (Nat.le_trans (Nat.le_add_right ..) r.depth) (by decide)
theorem Rm.cline {A : Around} {n : Nat} (r : Rm A n) : A.units < cLine := Nat.lt_of_le_of_lt (Nat.le_trans (Nat.le_add_right ..) r.units) (by decide)

/-- what the heap holds for good -/
structure GE (K : Frag) (mg mb : Str → Option Value) (h : Heap) : Prop where
  k : K.In h
  gl : Gl mg mb h
  lim : h.NoLimit
theorem GE.ext {K : Frag} {mg mb : Str → Option Value} {h h' : Heap} (G : GE K mg mb h) (X : Ext h h') : GE K mg mb h' := ⟨G.k.keeps X, G.gl.ext X, G.lim.keeps X⟩

def Vars.of (l : List (Str × D)) : Vars := fun y => l.lookup y

theorem bindL_off {kf : Str → Option NameKind} {y : Str} : ∀ {binds : List (Str × Value)} {m : Str → Option Value}, y ∉ binds.map (·.1) → bindL kf binds m y = m y
  | [], m, _ => rfl
  | (n, v) :: r, m, h => by
    rw [List.map_cons, List.mem_cons, not_or] at h
    unfold bindL
    rw [bindL_off h.2]
    split
    · exact if_neg h.1
    · rfl
theorem bindC_off {kf : Str → Option NameKind} {y : Str} : ∀ {binds : List (Str × Value)} {m : Str → Option Value}, y ∉ binds.map (·.1) → bindC kf binds m y = m y
  | [], m, _ => rfl
  | (n, v) :: r, m, h => by
    rw [List.map_cons, List.mem_cons, not_or] at h
    unfold bindC
    rw [bindC_off h.2]
    split
    · rfl
    · exact if_neg h.1
theorem bind_at {kf : Str → Option NameKind} {y : Str} {v : Value} : ∀ {binds : List (Str × Value)} {m cm : Str → Option Value}, (binds.map (·.1)).Nodup → binds.lookup y = some v →
    (kf y = some .local → bindL kf binds m y = some v) ∧ (kf y ≠ some .local → bindC kf binds cm y = some v)
  | [], _, _, _, h => by cases h
  | (n, u) :: r, m, cm, hnd, h => by
    rw [List.map_cons, List.nodup_cons] at hnd
    rw [List.lookup_cons] at h
    cases hb : y == n with
    | true =>
      rw [hb] at h; cases h
      have e : y = n := beq_iff_eq.mp hb
      subst e
      unfold bindL bindC
      refine ⟨fun hk => ?_, fun hk => ?_⟩
      · rw [bindL_off hnd.1, if_pos hk]; exact if_pos rfl
      · rw [bindC_off hnd.1, if_neg hk]; exact if_pos rfl
    | false =>
      rw [hb] at h
      unfold bindL bindC
      exact bind_at hnd.2 h
theorem zip_lookup {N : Addr → Prop} {h : Heap} {y : Str} {d : D} : ∀ {ns : List Str} {ds : List D} {vs : List Value}, RepL N h ds vs → (ns.zip ds).lookup y = some d → ∃ v, (ns.zip vs).lookup y = some v ∧ Rep N h d v
  | [], _, _, _, e => by cases e
  | n :: ns, [], _, _, e => by cases e
  | n :: ns, d' :: ds, vs, r, e => by
    obtain ⟨v, r', rfl, h1, h2⟩ := RepL.cons_iff.mp r
    rw [List.zip_cons_cons, List.lookup_cons] at e ⊢
    cases hb : y == n with
    | true => rw [hb] at e; cases e; exact ⟨v, rfl, h1⟩
    | false => rw [hb] at e; exact zip_lookup h2 e
theorem zip_names {α : Type} : ∀ {ns : List Str} {vs : List α}, ns.length = vs.length → (ns.zip vs).map (·.1) = ns
  | [], [], _ => rfl
  | n :: ns, v :: vs, h => by
    rw [List.zip_cons_cons, List.map_cons, zip_names (Nat.succ.inj h)]

section
variable {prog : Program} {w : World} {A : Around} {N : Addr → Prop}

/-- a call of a def of the text's own -/
theorem enterF {s : Shared} {a : Addr} {o : Obj} {fd : FuncData} {body : List Stmt} {vs : List Value} {ns : List Str} {ds : List D} {d : D} {n : Nat} (rm : Rm A (n + 1)) (ho : s.heap.get? a = some o) (hdata : o.data = .func fd) (hlim : s.heap.NoLimit)
    (hcd : s.heap.CodeRec fd.code fd.qualname) (hbody : fd.body = .stmts body) (hclo : fd.closure = []) (hN : New N s.heap) (hT : 0 < s.toks) (r : RepL N s.heap ds vs) (hbind : bindArgs fd ⟨vs, []⟩ = pure (ns.zip vs)) (hlen : ns.length = ds.length) (hnd : ns.Nodup)
    (hkind : ∀ m : Nat, ∀ x ∈ ns, fd.scope.names.lookup x = some .local ∨ (fd.scope.names.lookup x = some .cell ∧ ((cellsFrom m fd.scope.names []).lookup x).isSome = true))
    (hcn : ((cellsFrom 0 fd.scope.names []).map (·.1)).Nodup) (hk : fd.scope.kind = .function)
    (h : ∀ L N' ad s₁ E', FSN (callEnvC fd L a) (fun a o => s.heap.get? a = some o) (fun _ => False) N N' ad (Vars.of (ns.zip ds)) [] s₁.heap → Sm s s₁ → Rm (A.deeper (callEnvC fd L a)) n →
      wpAny (model prog w) (A.deeper (callEnvC fd L a)) (execs body (callEnvC fd L a)) (fun f s' => ∃ v, f = .ret v ∧ Gr s s' ∧ Rep N s'.heap d v) E' s₁)
    (hco : fd.scope.isCoroutine = false := by rfl) (hgen : fd.scope.isGenerator = false := by rfl) :
    Gives prog w A N d (call (.ref a) vs) s := fun Q E q => by
  have hlv : ns.length = vs.length := hlen.trans r.length.symm
  refine wpAny_call (codeAny_call_function rm.room ho hdata hco hgen hbody hcd ?_)
  rw [hbind, hclo]
  refine wpAny_pure (wpAny_with_toks (Nat.le_refl s.toks) (wpAny_newFunctionEnv_cells hk (fun x hx => hkind _ x.1 (by rw [← zip_names hlv]; exact List.mem_map.mpr ⟨x, hx, rfl⟩)) fun env he s₁ x hle => ?_))
  subst he
  refine ⟨hlim.keeps x.toInCall.keep, codeAny_func ?_⟩
  generalize hLe : s.heap.objs.size = L at x ⊢
  replace x : InCallC s (callEnvC fd L a).locals (bindL (callEnvC fd L a).kindOf (ns.zip vs) fun _ => none) (callEnvC fd L a).cells (bindC (callEnvC fd L a).kindOf (ns.zip vs) fun _ => none) s₁ := x
  show wpAny (model prog w) (A.deeper (callEnvC fd L a)) (execs body (callEnvC fd L a)) _ _ s₁
  have hsame := x.toInCall.same
  have hns := x.toInCall.ns
  have keep := x.toInCall.keep
  have hbel : ∀ b o, s.heap.get? b = some o → b < L := fun b o e => hLe ▸ Heap.lt_size e
  have hmem : ∀ c ∈ (callEnvC fd L a).cells, (callEnvC fd L a).cells.lookup c.1 = some c.2 := fun c hc => by
    refine lookup_of_mem_nodup ?_ hc
    show ((cellsFrom (L + 1) fd.scope.names []).map (·.1)).Nodup
    rw [cellsFrom_names fd.scope.names (L + 1) 0 [] [] rfl]; exact hcn
  have hce : ∀ c ∈ (callEnvC fd L a).cells, ∃ v, s₁.heap.IsCell c.2 v := fun c hc => ⟨_, x.cell _ _ (hmem c hc)⟩
  have habove : ∀ c ∈ (callEnvC fd L a).cells, L < c.2 := fun c hc => x.above c.1 c.2 hc
  have hm : mcells (callEnvC fd L a) = (callEnvC fd L a).cells := by unfold mcells; exact if_pos rfl
  have hL : (callEnvC fd L a).locals = L := rfl
  have notMut : ∀ b o, s.heap.get? b = some o → ¬ Mut (callEnvC fd L a) (fun _ => 0) [] b := fun b o e hM => by
    have hb := hbel b o e
    rcases hM with e | ⟨c, hc, e⟩ | ⟨e, he, _⟩
    · rw [hL] at e; exact absurd hb (by rw [e]; exact Nat.lt_irrefl _)
    · rw [hm] at hc; have := habove c hc; rw [← e] at this; exact absurd hb (Nat.not_lt.mpr (Nat.le_of_lt this))
    · cases he
  have live : ∀ b, Mut (callEnvC fd L a) (fun _ => 0) [] b → s₁.heap.get? b ≠ none := fun b hM e => by
    rcases hM with e' | ⟨c, hc, e'⟩ | ⟨e, he, _⟩
    · obtain ⟨o, _, _, ho, _⟩ := hns; rw [e'] at e; rw [show s₁.heap.get? _ = some o from ho] at e; cases e
    · rw [hm] at hc; obtain ⟨v, o, ho, _⟩ := hce c hc; rw [e', ho] at e; cases e
    · cases he
  have FS : FSN (callEnvC fd L a) (fun a o => s.heap.get? a = some o) (fun _ => False) N (fun b => N b ∧ ¬ Mut (callEnvC fd L a) (fun _ => 0) [] b) (fun _ => 0) (Vars.of (ns.zip ds)) [] s₁.heap := by
    refine ⟨hk, fun b hb => ⟨hb.1, id, hb.2⟩, fun b hb => ⟨hN b (Ext.new keep hb), fun hM => live b hM hb⟩, keep, notMut, ⟨_, hns⟩, hce, by rw [hm]; exact x.apart, fun c hc => ?_, fun y d' e => ?_, fun e he => (by cases he), fun e he => (by cases he), fun e he => (by cases he), fun e he => (by cases he), fun e he => (by cases he)⟩
    · rw [hL]; exact Nat.ne_of_gt (habove c hc)
    · obtain ⟨v, hv, rv⟩ := zip_lookup r e
      refine ⟨v, ?_, rv.map fun b o hb e => ⟨⟨hb, notMut b o e⟩, keep b o e⟩⟩
      have hnd' : ((ns.zip vs).map (·.1)).Nodup := by rw [zip_names hlv]; exact hnd
      have hy : y ∈ ns := by rw [← zip_names hlv]; exact List.mem_map.mpr ⟨_, mem_of_lookup hv, rfl⟩
      have hb := bind_at (kf := (callEnvC fd L a).kindOf) (m := fun _ => none) (cm := fun _ => none) hnd' hv
      rcases hkind (L + 1) y hy with hl | ⟨hl, hc⟩
      · exact .loc hl hns (hb.1 hl)
      · obtain ⟨c, hc⟩ := Option.isSome_iff_exists.mp hc
        refine .cell hl hc ?_
        rw [← hb.2 (by show fd.scope.names.lookup y ≠ _; rw [hl]; decide)]
        exact x.cell y c hc
  refine wpAny_mono (h L _ _ s₁ _ FS ?_ (rm.deeper _)) (fun f s' hf => ?_) fun _ _ e => e
  · obtain ⟨h₁, tk, rfl⟩ := hsame
    exact ⟨.refl _, rfl, rfl, hle⟩
  · obtain ⟨v, rfl, g, rv⟩ := hf
    exact q v s' g rv

theorem Ev.neg {env : Env} {h : Heap} {e : Expr} {p : Pos} {a : Int} (H : Ev prog w A N env h e (.int a)) : Ev prog w A N env h (.UnaryOp .USub e p) (.int (-a)) := fun s X T Q E q =>
  wpAny_UnaryOp (H s X T _ _ fun v s₁ g r => by
    obtain ⟨t, rfl⟩ := Rep.int_iff.mp r
    exact P.neg_int (q _ _ (g.trans (Gr.tok s₁ _ (Nat.le_succ _))) .int'))

/-- a result in which no address lies -/
theorem Ev.intN {N' : Addr → Prop} {env : Env} {h : Heap} {e : Expr} {i : Int} (H : Ev prog w A N' env h e (.int i)) : Ev prog w A N env h e (.int i) := fun s X T Q E q =>
  H s X T Q E fun v s' g r => q v s' g (Rep.int_iff.mpr (Rep.int_iff.mp r))

/-- equal data compare equal -/
def D.flat : D → Bool
  | .int _ => true
  | .str _ => true
  | _ => false
theorem Rep.eqAt {h : Heap} {A : Around} {s : Shared} {d : D} {u v : Value} (hd : d.flat = true) (ru : Rep N h d u) (rv : Rep N h d v) : SeqAt.EqAt A s u v true := by
  cases d with
  | int i =>
    obtain ⟨t, rfl⟩ := Rep.int_iff.mp ru
    obtain ⟨t', rfl⟩ := Rep.int_iff.mp rv
    have := SeqAt.EqAt.int_int (A := A) (s := s) i t i t'
    rwa [beq_self_eq_true] at this
  | str i =>
    obtain ⟨t, rfl⟩ := Rep.str_iff.mp ru
    obtain ⟨t', rfl⟩ := Rep.str_iff.mp rv
    have := SeqAt.EqAt.str_str (A := A) (s := s) i t i t'
    rwa [beq_self_eq_true] at this
  | _ => cases hd
theorem RepL.eqAt {h : Heap} {A : Around} {s : Shared} {ds : List D} {us vs : List Value} (hd : ∀ d ∈ ds, d.flat = true) (ru : RepL N h ds us) (rv : RepL N h ds vs) :
    ∀ j (h1 : j < us.toArray.size) (h2 : j < vs.toArray.size), SeqAt.EqAt A s us.toArray[j] vs.toArray[j] true := fun j h1 h2 => by
  have hj : j < ds.length := by have := ru.length; simp at h1; omega
  have hd' : ds[j]? = some ds[j] := List.getElem?_eq_getElem hj
  obtain ⟨u, eu, r1⟩ := ru.get hd'
  obtain ⟨v, ev, r2⟩ := rv.get hd'
  have e1 : us.toArray[j] = u := by
    have := (List.getElem?_eq_some_iff.mp eu).2; simpa using this
  have e2 : vs.toArray[j] = v := by
    have := (List.getElem?_eq_some_iff.mp ev).2; simpa using this
  rw [e1, e2]
  exact r1.eqAt (hd _ (List.getElem_mem hj)) r2
theorem Cmp.eqL {ds : List D} (hd : ∀ d ∈ ds, d.flat = true) (hu : A.units < cLine) : Cmp prog w A N .Eq (.list ds) (.list ds) true := fun s u v T ru rv Q E q => by
  obtain ⟨a, us, n, rfl, _, hl, rl⟩ := Rep.list_iff.mp ru
  obtain ⟨b, vs, m, rfl, _, hl', rl'⟩ := Rep.list_iff.mp rv
  refine SeqAt.eq_listAt (e := fun _ => true) hl.isList hl'.isList (by simp [rl.length, rl'.length]) hu (rl.eqAt hd rl') ?_
  rw [show (List.range us.toArray.size).all (fun _ => true) = true by simp]
  exact q _ _ (Gr.refl s) .bool'
theorem Cmp.neL {ds : List D} (hd : ∀ d ∈ ds, d.flat = true) (hu : A.units < cLine) : Cmp prog w A N .NotEq (.list ds) (.list ds) false := fun s u v T ru rv Q E q => by
  obtain ⟨a, us, n, rfl, _, hl, rl⟩ := Rep.list_iff.mp ru
  obtain ⟨b, vs, m, rfl, _, hl', rl'⟩ := Rep.list_iff.mp rv
  refine SeqAt.RcNeAt.lists (e := fun _ => true) hl.isList hl'.isList (by simp [rl.length, rl'.length]) hu (rl.eqAt hd rl') prog w E Q ?_
  rw [show (List.range us.toArray.size).all (fun _ => true) = true by simp]
  exact q _ _ (Gr.refl s) .bool'
theorem Cmp.neT {ds : List D} (hd : ∀ d ∈ ds, d.flat = true) (hu : A.units < cLine) : Cmp prog w A N .NotEq (.tup ds) (.tup ds) false := fun s u v T ru rv Q E q => by
  obtain ⟨a, us, n, rfl, _, hl, rl⟩ := Rep.tup_iff.mp ru
  obtain ⟨b, vs, m, rfl, _, hl', rl'⟩ := Rep.tup_iff.mp rv
  refine SeqAt.RcNeAt.tuples (items := us.toArray) (items2 := vs.toArray) (e := fun _ => true) ⟨_, hl, rfl, _, rfl⟩ ⟨_, hl', rfl, _, rfl⟩ hu (rl.eqAt hd rl') prog w E Q ?_
  rw [show ((List.range (min us.toArray.size vs.toArray.size)).all (fun _ => true) && us.toArray.size == vs.toArray.size) = true by simp [rl.length, rl'.length]]
  exact q _ _ (Gr.refl s) .bool'

/-- one thing again and again -/
theorem Ev.mulL1 {env : Env} {h : Heap} {l r : Expr} {p : Pos} {d : D} {n : Int} (hN : New N h) (hl : Ev prog w A N env h l (.list [d])) (hr : Ev prog w A N env h r (.int n)) (h0 : 0 ≤ n) (h1 : n ≤ 2 ^ 24) :
    Ev prog w A N env h (.BinOp l .Mult r p) (.list (List.replicate n.toNat d)) :=
  hl.bin hr fun s u v X T ru rv Q E q => by
    obtain ⟨a, us, k, rfl, ha, hl, rl⟩ := Rep.list_iff.mp ru
    obtain ⟨v, rfl, r1⟩ := rl.one
    obtain ⟨t, rfl⟩ := Rep.int_iff.mp rv
    refine wpAny_binaryOp_repeat_ref (T := "list") (U := "int") (by decide) ⟨_, hl, rfl⟩ (fun s' => typeIs_int s' n t) noFill_list_mul F.fills_int_mul F.slot_int_rmul repeat_list F.slot_int_index.lookup
      (call_meets F.slot_int_rmul (typeIs_int s n t) F.entry_int_rmul (F.args_int_rmul_2 _ _) (int___rmul___int_list n t a _ k)
        ⟨hl, rfl, ⟨_, hl, rfl⟩, call_meets F.slot_list_mul ⟨_, hl, rfl⟩ F.entry_list_mul (F.args_list_mul_2 _ _)
          (AutoListH.list___mul___list_int_3 a _ k n t (by simp [Builtin.List.listFitsIndex]; omega) (by simp; omega) (by simp [Builtin.List.listTooLong, sizeLine_eq]; omega)) ⟨hl, ?_⟩⟩)
    have e : List.foldl (fun x1 x2 : Array Value => x1 ++ x2) #[] (List.replicate (if ([v] : List Value).toArray.isEmpty = true then 0 else n.toNat) ([v] : List Value).toArray) = (List.replicate n.toNat v).toArray := by
      rw [listMul_foldl]
      simp
    refine q _ _ (Gr.push s _ _ (Nat.le_refl _)) (Rep.list_iff.mpr ⟨_, List.replicate n.toNat v, 0, rfl, hN.at X (Nat.le_refl _), ?_, ?_⟩)
    · rw [e]; exact IsL.new _ _
    · have X2 : Ext s.heap (s.heap.push { cls := Value.type "list", data := Data.seq (List.foldl (fun x1 x2 : Array Value => x1 ++ x2) #[] (List.replicate (if ([v] : List Value).toArray.isEmpty = true then 0 else n.toNat) ([v] : List Value).toArray)) }) := fun b o e => Heap.get?_push_of_some _ e
      generalize s.heap.push _ = H at X2 ⊢
      have r2 : Rep N H d v := r1.map fun b o hb e => ⟨hb, X2 _ _ e⟩
      show RepL N H _ _
      generalize n.toNat = k'
      induction k' with
      | zero => exact RepL.nil
      | succ k' ih => exact RepL.cons r2 ih
end

section
variable {prog : Program} {w : World} {A : Around} {E : Value → Shared → Prop} {s : Shared} {env : Env} {Bk : Addr → Obj → Prop} {Z N₀ N : Addr → Prop} {ad : Str → Addr} {ρ : Vars} {ac : Accs} {Q : Flow → Shared → Prop}

theorem FSN.aug {x : Str} {op : Operator} {px p : Pos} {e : Expr} {i j k : Int} (F : FSN env Bk Z N₀ N ad ρ ac s.heap) (T : 0 < s.toks) (hx : Own env x) (hi : ρ x = some (.int i)) (hE : Ev prog w A N env s.heap e (.int j))
    (hop : (op = .Add ∧ k = i + j) ∨ (op = .Sub ∧ k = i - j)) (q : ∀ s', Sm s s' → FSN env Bk Z N₀ N ad (ρ.put x (.int k)) (ac.del x) s'.heap → Q .next s') :
    wpAny (model prog w) A (exec (.AugAssign (.Name x px) op e p) env) Q E s := by
  refine wpAny_AugAssign_Name ?_
  obtain ⟨v, H, r⟩ := F.vars x _ hi
  obtain ⟨t, rfl⟩ := Rep.int_iff.mp r
  have step : ∀ K : Value → Shared → Prop, K (.int i t) s → wpAny (model prog w) A (loadName env x) K E s := fun K hK => by
    cases H with
    | loc hl hn hv => exact wpAny_loadName_local F.kind hl hn hv hK
    | cell hl hc hv => exact wpAny_loadName_cell F.kind hl hc hv hK
  refine step _ (hE s (Ext.refl _) T _ _ fun v s₁ g r₁ => ?_)
  obtain ⟨t', rfl⟩ := Rep.int_iff.mp r₁
  have F₁ := F.grow g.keep
  have fin : ∀ K s₂, Sm s₁ s₂ → s₂.heap = s₁.heap → (∀ s', Sm s₂ s' → FSN env Bk Z N₀ N ad (ρ.put x (.int k)) (ac.del x) s'.heap → K () s') → wpAny (model prog w) A (storeName env x (.int k s₁.toks)) K E s₂ := fun K s₂ m e kk =>
    FSN.store (s := s₂) (by rw [e]; exact F₁) hx .int' fun s' m' F' _ => kk s' m' F'
  rcases hop with ⟨rfl, rfl⟩ | ⟨rfl, rfl⟩
  · exact P.iadd_int (fin _ _ ⟨.refl _, rfl, rfl, Nat.le_succ _⟩ rfl fun s' m F' => q s' (g.sm.trans ⟨m.gens, m.os, m.drawn, Nat.le_of_succ_le m.toks⟩) F')
  · exact P.isub_int (fin _ _ ⟨.refl _, rfl, rfl, Nat.le_succ _⟩ rfl fun s' m F' => q s' (g.sm.trans ⟨m.gens, m.os, m.drawn, Nat.le_of_succ_le m.toks⟩) F')

/-- cells[i] = v -/
theorem FSN.setItem {x : Str} {ps px p : Pos} {ei e : Expr} {ds : List D} {d : D} {i : Int} (F : FSN env Bk Z N₀ N ad ρ ac s.heap) (T : 0 < s.toks) (hm : (x, ds) ∈ ac) (hx : x ≠ "") (hi : Ev prog w A N env s.heap ei (.int i)) (hE : Ev prog w A N env s.heap e d)
    (h0 : 0 ≤ i) (h1 : i < ds.length) (h2 : i < 2 ^ 63) (q : ∀ s', Sm s s' → FSN env Bk Z N₀ N ad ρ (ac.put x (ds.set i.toNat d)) s'.heap → Q .next s')
    (hd : (x == ("__debug__" : Str)) = false := by decide) (hs : swapsWith e (some (.Subscript (.Name x px) ei ps)) p.line env = pure false := by rfl) :
    wpAny (model prog w) A (exec (.Assign [.Subscript (.Name x px) ei ps] e p) env) Q E s := by
  refine wpAny_Assign_Subscript (hs := hs) (hE s (Ext.refl _) T _ _ fun v s₁ g r => ?_)
  obtain ⟨H, vs, n, hl, rl⟩ := F.accs _ hm
  refine (H hx).load F.kind g.keep ?_ hd
  refine hi s₁ g.keep (g.sm.pos T) _ _ fun u s₂ g₂ r₂ => ?_
  obtain ⟨t, rfl⟩ := Rep.int_iff.mp r₂
  have g' := g.trans g₂
  have hl₂ := g'.keep _ _ hl
  have hlen := rl.length
  refine ki_setAt (n := n) hl₂ h0 h2 (by simp [hlen]; exact h1) ?_
  have F₂ := F.grow g'.keep
  have hu := IsL.update (h := s₂.heap) (l := ad x) hl₂ (fun xs => xs.setIfInBounds i.toNat v)
  refine q _ (g'.sm.trans ⟨.refl _, rfl, rfl, Nat.le_refl _⟩) (F₂.accSet (vs' := vs.set i.toNat v) (n' := n) hm (Heap.SameBut.update ..) (by simpa using hu) ?_)
  have rl₂ : RepL N s₂.heap ds vs := rl.gr g'
  have rv₂ : Rep N s₂.heap d v := r.gr g₂
  clear hu hl₂ hl hm
  have hgen : ∀ (k : Nat) (ds : List D) (vs : List Value), RepL N s₂.heap ds vs → RepL N s₂.heap (ds.set k d) (vs.set k v) := by
    intro k
    induction k with
    | zero =>
      intro ds vs r
      cases ds with
      | nil => rw [RepL.nil_iff.mp r]; exact RepL.nil
      | cons d' ds => obtain ⟨v', r', rfl, a, b⟩ := RepL.cons_iff.mp r; exact RepL.cons rv₂ b
    | succ k ih =>
      intro ds vs r
      cases ds with
      | nil => rw [RepL.nil_iff.mp r]; exact RepL.nil
      | cons d' ds => obtain ⟨v', r', rfl, a, b⟩ := RepL.cons_iff.mp r; exact RepL.cons a (ih _ _ b)
  exact hgen _ _ _ rl₂

theorem FSN.extend {x : Str} {np ap p p2 : Pos} {e : Expr} {ds es : List D} (F : FSN env Bk Z N₀ N ad ρ ac s.heap) (T : 0 < s.toks) (hm : (x, ds) ∈ ac) (hE : Ev prog w A N env s.heap e (.list es)) (hsz : ds.length + es.length ≤ sizeLine) (hx : x ≠ "")
    (q : ∀ s', Sm s s' → FSN env Bk Z N₀ N ad ρ (ac.put x (ds ++ es)) s'.heap → Q .next s')
    (hb : attributeBase (.Name x np) "extend" env (eval (.Name x np) env) = eval (.Name x np) env := by rfl) (hs : starEach [e] env = [(false, eval e env)] := by rfl) (hp : (ap.endLine == p.line) = true := by rfl) (hd : (x == ("__debug__" : Str)) = false := by decide)
    (hi : interactive env = false := by rfl) (hsw : swapsWith (.Call (.Attribute (.Name x np) "extend" ap) [e] [] p) none p2.line env = pure false := by rfl) :
    wpAny (model prog w) A (exec (.Expr (.Call (.Attribute (.Name x np) "extend" ap) [e] [] p) p2) env) Q E s := by
  obtain ⟨H, vs, n, hl, r⟩ := F.accs _ hm
  refine wpAny_Expr (hi := hi) (hs := hsw) (Call_method1 hb hs hp ((H hx).load F.kind (Ext.refl _) ?_ hd))
  refine ⟨"list", "list.extend", PySem.F.plainAttrs_list, PySem.F.slot_list_extend, PySem.F.type_list_extend, hl.isList.typeIs, (fun a e => by cases e; exact ⟨_, hl, rfl⟩), P.extend_list (hE s (Ext.refl _) T _ _ fun v s₁ g r₁ => ?_)⟩
  have hl₁ : IsL s₁.heap (ad x) vs.toArray n := g.keep _ _ hl
  obtain ⟨b, us, m, rfl, _, hl₂, r₂⟩ := Rep.list_iff.mp r₁
  have e1 := r.length
  have e2 := r₂.length
  refine ⟨b, vs.toArray, us.toArray, n, m, by simp [e1]; omega, by simp [e1, e2]; omega, by simp [Builtin.List.listTooLong, e1, e2]; omega, rfl, hl₁, hl₂, ?_⟩
  have F1 := F.grow g.keep
  show Q .next _
  have hu := hl₁.update (fun xs => xs ++ us.toArray)
  refine q _ (g.sm.trans ⟨.refl _, rfl, rfl, Nat.le_refl _⟩) (F1.accSet (vs' := vs ++ us) hm (Heap.SameBut.update ..) (by simpa using hu) ((r.gr g).append r₂))

/-- name, rounds = .. -/
theorem FSN.assignT {x y : Str} {k : Nat} {px py pt p : Pos} {e : Expr} {a b : D} (F : FSN env Bk Z N₀ N ad ρ ac s.heap) (T : 0 < s.toks) (hh : A.handled = none) (hx : Own env x) (hy : Own env y) (hxy : x ≠ y) (hE : Ev prog w A N env s.heap e (.tup [a, b]))
    (q : ∀ s', Sm s s' → FSN env Bk Z N₀ N ad ((ρ.put x a).put y b) ((ac.del x).del y) s'.heap → Q .next s')
    (hs : swapsWithSole [.Tuple [.Name x px, .Name y py] k pt] e p.line env = pure false := by rfl)
    (hw : swappedStores [.Tuple [.Name x px, .Name y py] k pt] e env = pure none := by rfl) :
    wpAny (model prog w) A (exec (.Assign [.Tuple [.Name x px, .Name y py] k pt] e p) env) Q E s :=
  Assign_Tuple (hE s (Ext.refl _) T _ _ fun v s₁ g r => setTup hh hx hy hxy _ _ (F.grow g.keep) r fun s₂ m F₂ => q s₂ (g.sm.trans m) F₂) hs hw
end
end Mine

end

-- part Fw12
section
open PySem PySem.W PyProof.Rows
set_option Elab.async false
set_option linter.unusedVariables false
namespace Mine
section
variable {prog : Program} {w : World} {A : Around} {E : Value → Shared → Prop} {s₀ s : Shared} {env : Env} {Z N₀ N : Addr → Prop} {ad : Str → Addr} {ρ : Vars} {ac : Accs}

/-- the return that ends a def -/
theorem FSN.done {e : Expr} {p : Pos} {d : D} {rest : List Stmt} (F : FSN env (fun a o => s₀.heap.get? a = some o) Z N₀ N ad ρ ac s.heap) (m : Sm s₀ s) (T : 0 < s₀.toks) (H : Ev prog w A N env s.heap e d) :
    wpAny (model prog w) A (execs (.Return (some e) p :: rest) env) (fun f s' => ∃ v, f = .ret v ∧ Gr s₀ s' ∧ Rep N₀ s'.heap d v) E s :=
  wpAny_execs_cons (F.ret (m.pos T) H fun v s' m' F' r' => ⟨v, rfl, ⟨F'.keep, m'.gens.trans m.gens, m'.os.trans m.os, m'.drawn.trans m.drawn, (m.trans m').toks⟩, r'.map fun b o hb e => ⟨(F'.sub b hb).1, e⟩⟩)
theorem FSN.ext (F : FSN env (fun a o => s₀.heap.get? a = some o) Z N₀ N ad ρ ac s.heap) : Ext s₀.heap s.heap := F.keep
end
section
variable {prog : Program} {w : World} {A : Around} {N : Addr → Prop} {env : Env} {h : Heap}
theorem Tr.cast {e : Expr} {b c : Bool} (H : Tr prog w A env h e b) (q : b = c) : Tr prog w A env h e c := q ▸ H
theorem Ev.cast {e : Expr} {d d' : D} (H : Ev prog w A N env h e d) (q : d = d') : Ev prog w A N env h e d' := q ▸ H
end

abbrev FSN.at {env : Env} {Bk : Addr → Obj → Prop} {Z N₀ N : Addr → Prop} {ad : Str → Addr} {ρ : Vars} {ac : Accs} {h : Heap} (F : FSN env Bk Z N₀ N ad ρ ac h) (ρ' : Vars) (ac' : Accs) (h' : Heap) : Prop := FSN env Bk Z N₀ N ad ρ' ac' h'
theorem seqW {M : Model} {A : Around} {E : Value → Shared → Prop} {s : Shared} {env : Env} {st : Stmt} {rest : List Stmt} {Q : Flow → Shared → Prop} (P : Shared → Prop) (h : wpAny M A (exec st env) (fun f s' => f = .next ∧ P s') E s)
    (k : ∀ s', P s' → wpAny M A (execs rest env) Q E s') : wpAny M A (execs (st :: rest) env) Q E s :=
  wpAny_execs_cons (wpAny_mono h (fun f s' x => by obtain ⟨rfl, x⟩ := x; exact k s' x) fun _ _ x => x)

/-- spaces, the ink, spaces -/
def inkL : List Nat := [9, 120, 32, 32, 9, 89, 46, 43, 64, 9]
def padL (f b : Nat) : List Nat := List.replicate f 32 ++ inkL ++ List.replicate b 32
def padded (f b : Nat) : Str := ⟨(padL f b).toArray⟩
theorem padL_length (f b : Nat) : (padL f b).length = f + 10 + b := by simp [padL, inkL]; omega
theorem padded_length (f b : Nat) : (padded f b).length = f + 10 + b := by
  show (padL f b).toArray.size = _
  simp [padL_length]
theorem Str.ext_list {x y : Str} (e : x.cps.toList = y.cps.toList) : x = y := by
  obtain ⟨⟨a⟩⟩ := x; obtain ⟨⟨b⟩⟩ := y
  cases e; rfl
theorem charAt_nat {x : Str} {i : Nat} (h : i < x.length) : Txt.charAt x (i : Int) = x.cps[i]? := by
  unfold Txt.charAt
  have : seqIndex? (i : Int) x.length = some i := by
    unfold seqIndex?
    simp
    omega
  rw [this]; rfl
theorem padL_at {f b i : Nat} : (padL f b)[i]? = if i < f then some 32 else if i < f + 10 then inkL[i - f]? else if i < f + 10 + b then some 32 else none := by
  unfold padL
  have hi : inkL.length = 10 := rfl
  split
  · rename_i h
    rw [List.getElem?_append_left (by simp; omega), List.getElem?_append_left (by simp; omega)]
    simp [h]
  · rename_i h
    split
    · rename_i h'
      rw [List.getElem?_append_left (by simp [hi]; omega), List.getElem?_append_right (by simp; omega)]
      simp
    · rename_i h'
      rw [List.getElem?_append_right (by simp [hi]; omega)]
      simp [hi]
      split
      · rename_i h2
        rw [List.getElem?_replicate_of_lt (by omega)]
      · rename_i h2
        rw [List.getElem?_eq_none (by simp; omega)]
theorem padded_char {f b i : Nat} (h : i < f + 10 + b) : Txt.charAt (padded f b) (i : Int) = (padL f b)[i]? := by
  rw [charAt_nat (by rw [padded_length]; exact h)]
  show (padL f b).toArray[i]? = _
  simp
theorem item_eq {x : Str} {i : Int} {c : Nat} (h : Txt.charAt x i = some c) : Txt.item x i = ⟨#[c]⟩ := by unfold Txt.item; rw [h]; rfl

def blank1 : Str := ⟨#[32]⟩
theorem padded_front {f b i : Nat} (h : i ≤ f) : decide (Txt.item (padded f b) (i : Int) = (" " : Str)) = decide (i < f) ∧ (Txt.charAt (padded f b) (i : Int)).isSome = true := by
  have e : (" " : Str) = blank1 := by decide
  rw [e]
  by_cases hi : i < f
  · have h1 : Txt.charAt (padded f b) (i : Int) = some 32 := by rw [padded_char (by omega), padL_at, if_pos hi]
    rw [item_eq h1, h1]; exact ⟨by simp [hi, blank1], rfl⟩
  · have hif : i = f := by omega
    subst hif
    have h1 : Txt.charAt (padded i b) (i : Int) = some 9 := by rw [padded_char (by omega), padL_at, if_neg (by omega), if_pos (by omega), Nat.sub_self]; rfl
    rw [item_eq h1, h1]; exact ⟨by simp [blank1], rfl⟩
theorem padded_back {f b j : Nat} (h : j ≤ b) : decide (Txt.item (padded f b) (((f + 10 + b : Nat) : Int) - 1 - j) = (" " : Str)) = decide (j < b) ∧ (Txt.charAt (padded f b) (((f + 10 + b : Nat) : Int) - 1 - j)).isSome = true := by
  have e : (" " : Str) = blank1 := by decide
  rw [e]
  have e2 : (((f + 10 + b : Nat) : Int) - 1 - j) = ((f + 10 + b - 1 - j : Nat) : Int) := by omega
  rw [e2]
  by_cases hj : j < b
  · have h1 : Txt.charAt (padded f b) ((f + 10 + b - 1 - j : Nat) : Int) = some 32 := by
      rw [padded_char (by omega), padL_at, if_neg (by omega), if_neg (by omega), if_pos (by omega)]
    rw [item_eq h1, h1]; exact ⟨by simp [hj, blank1], rfl⟩
  · have hjb : j = b := by omega
    subst hjb
    have h1 : Txt.charAt (padded f j) ((f + 10 + j - 1 - j : Nat) : Int) = some 9 := by
      rw [padded_char (by omega), padL_at, if_neg (by omega), if_pos (by omega), show f + 10 + j - 1 - j - f = 9 by omega]; rfl
    rw [item_eq h1, h1]; exact ⟨by simp [blank1], rfl⟩
theorem slice_nat (x : Str) {a b : Nat} (hab : a ≤ b) (hb : b ≤ x.length) : Txt.slice x (some (a : Int)) (some (b : Int)) = ⟨((x.cps.toList.drop a).take (b - a)).toArray⟩ := StrLaws.sliceText_nat x hab hb
theorem padded_slice {f b i j : Nat} (hi : i ≤ f) (hj : j ≤ b) : Txt.slice (padded f b) (some (i : Int)) (some (((f + 10 + b - j : Nat) : Int))) = padded (f - i) (b - j) := by
  rw [slice_nat _ (by omega) (by rw [padded_length]; omega)]
  apply Str.ext_list
  show (((padL f b).drop i).take (f + 10 + b - j - i)) = padL (f - i) (b - j)
  apply List.ext_getElem?
  intro k
  rw [List.getElem?_take, List.getElem?_drop, padL_at, padL_at]
  by_cases h1 : k < f + 10 + b - j - i
  · rw [if_pos h1]
    by_cases h2 : k < f - i
    · rw [if_pos h2, if_pos (by omega)]
    · rw [if_neg h2, if_neg (by omega)]
      by_cases h3 : k < f - i + 10
      · rw [if_pos h3, if_pos (by omega), show i + k - f = k - (f - i) by omega]
      · rw [if_neg h3, if_neg (by omega), if_pos (by omega), if_pos (by omega)]
  · rw [if_neg h1, if_neg (by omega), if_neg (by omega), if_neg (by omega)]
end Mine

end

-- part W1
section
open PySem PySem.W PyProof.Rows
set_option Elab.async false
set_option linter.unusedVariables false
set_option pp.deepTerms false
set_option pp.maxSteps 1000
namespace Mine

section
variable {prog : Program} {w : World} {A : Around} {N : Addr → Prop} {mg mb : Str → Option Value} {p : Params}

/-- the names -/
structure GM (mg mb : Str → Option Value) : Prop where
  len : mg "len" = none ∧ mb "len" = some (.builtin "len")
  range : mg "range" = none ∧ mb "range" = some (.type "range")
  sum : mg "sum" = none ∧ mb "sum" = some (.builtin "sum")
  max : mg "max" = none ∧ mb "max" = some (.builtin "max")
  min : mg "min" = none ∧ mb "min" = some (.builtin "min")
  sorted : mg "sorted" = none ∧ mb "sorted" = some (.builtin "sorted")
  platform : mg "_platform" = some (.ref 21)
  blank : mg "_unknown_as_blank" = some (.ref 28)
  strip : mg "_strip_padding" = some (.ref 35)
  steps : mg "_law_steps" = some (.ref 40)
  orders : mg "_law_orders" = some (.ref 45)
  ways : mg "_law_ways" = some (.ref 52)
  line : mg "_law_line" = some (.ref 59)
  fall : mg "_law_fall" = some (.ref 64)
  tidied : mg "_law_tidied" = some (.ref 69)
  due : mg "_law_due" = some (.ref 74)
  filter : mg "filter" = none ∧ mb "filter" = some (.type "filter")

def blankF (x : Str) : Str := if x = "unknown" then "" else x
theorem c_blank {s : Shared} {vs : List Value} {x : Str} (G : GE (hd.heap_39 p) mg mb s.heap) (rm : Rm A 1) (hN : New N s.heap) (T : 0 < s.toks) (r : RepL N s.heap [.str x] vs) : Gives prog w A N (.str (blankF x)) (call (.ref 28) vs) s := by
  obtain ⟨v, rfl, _⟩ := r.one
  refine enterF (ns := ["val"]) rm (G.k 28 _ rfl) rfl G.lim ⟨27, _, _, _, rfl, G.k 27 _ rfl, rfl, rfl⟩ rfl rfl hN T r rfl rfl (by decide) (fun m x hx => by rcases List.mem_singleton.mp hx with rfl; exact .inl rfl) (by decide) rfl fun L N' ad s₁ E' F m rm' => ?_
  refine F.done m T (.ite (.cmp (F.ev (d := .str x) rfl) .str .eqS) (fun h => ?_) fun h => ?_)
  · have e : x = "unknown" := of_decide_eq_true h
    exact Ev.cast .str (by rw [blankF, if_pos e])
  · have e : ¬ x = "unknown" := of_decide_eq_false h
    exact Ev.cast (F.ev (d := .str x) rfl) (by rw [blankF, if_neg e])

/-- how far two loops go over n of f and b spaces -/
def takeN (n : Int) (f : Nat) : Nat := if 0 ≤ n ∧ n ≤ f then n.toNat else f

theorem c_strip {s : Shared} {vs : List Value} {f b : Nat} {n : Int} (GMm : GM mg mb) (G : GE (hd.heap_39 p) mg mb s.heap) (rm : Rm A 1) (hN : New N s.heap) (T : 0 < s.toks) (r : RepL N s.heap [.str (padded f b), .int n] vs) (hf : f ≤ 1000) (hb : b ≤ 1000) :
    Gives prog w A N (.str (padded (f - takeN n f) (b - takeN (n - takeN n f) b))) (call (.ref 35) vs) s := by
  obtain ⟨v, v', rfl, _, _⟩ := r.two
  refine enterF (ns := ["s", "amount"]) rm (G.k 35 _ rfl) rfl G.lim ⟨34, _, _, _, rfl, G.k 34 _ rfl, rfl, rfl⟩ rfl rfl hN T r rfl rfl (by decide) (fun m x hx => ?_) (by decide) rfl fun L N' ad s₁ E' F m rm' => ?_
  · simp only [List.mem_cons, List.not_mem_nil, or_false] at hx
    rcases hx with rfl | rfl <;> exact .inl rfl
  have tI : ∀ (n : Int) (f i : Nat), i ≤ takeN n f → (i < takeN n f ↔ (n - (i : Int) ≠ 0 ∧ i < f)) ∧ takeN n f ≤ f := fun n f i h => by
    unfold takeN at *
    split at h
    · rename_i hh; rw [if_pos hh]; constructor
      · omega
      · omega
    · rename_i hh; rw [if_neg hh]; constructor
      · omega
      · omega
  refine wpAny_execs_cons (F.assign (m.pos T) (.inl rfl) .int fun s₂ m₂ F₂ => ?_)
  have m12 := m.trans m₂
  refine seqW (fun s' => ∃ ρ, Sm s s' ∧ F₂.at ρ [] s'.heap ∧ ρ "s" = some (.str (padded f b)) ∧ ρ "amount" = some (.int (n - takeN n f)) ∧ ρ "lpos" = some (.int (takeN n f : Nat)))
    ?_ fun s₃ h₃ => ?_
  · refine While_of (fun k s' => ∃ (i : Nat) (ρ : Vars), k = f - i ∧ i ≤ takeN n f ∧ Sm s s' ∧ F₂.at ρ [] s'.heap ∧ ρ "s" = some (.str (padded f b)) ∧ ρ "amount" = some (.int (n - i)) ∧ ρ "lpos" = some (.int i)) f ?_ fun k s' hI => ?_
    · exact ⟨0, _, rfl, Nat.zero_le _, m12, F₂, rfl, (by show some (D.int n) = _; simp), rfl⟩
    obtain ⟨i, ρ, rfl, hi, m', F', h1, h2, h3⟩ := hI
    obtain ⟨t1, t2⟩ := tI n f i hi
    obtain ⟨c1, c2⟩ := padded_front (f := f) (b := b) (i := i) (by omega)
    refine ⟨m'.pos T, _, Tr.of_all (.and_cons (.int (F'.ev h2)) fun _ => .and_cons (.cmp (.itemS (F'.ev h1) (F'.ev h3) (by simp [fitsSsize]; omega) c2) .str .eqS) fun _ => .and_nil), fun hb s₄ E'' g => ?_, fun hb s₄ g => ⟨rfl, ρ, m'.trans g.sm, F'.grow g.keep, h1, ?_⟩⟩
    · rw [c1] at hb
      have hlt : i < takeN n f := t1.mpr (by simpa using hb)
      refine wpAny_execs_cons ((F'.grow g.keep).aug (g.sm.pos (m'.pos T)) (.inl rfl) h3 .int (.inl ⟨rfl, rfl⟩) fun s₅ m₅ F₅ => ?_)
      have m5 := (m'.trans g.sm).trans m₅
      refine wpAny_execs_cons (F₅.aug (m5.pos T) (.inl rfl) (i := n - i) h2 .int (.inr ⟨rfl, rfl⟩) fun s₆ m₆ F₆ => ?_)
      refine wpAny_execs_nil ⟨f - (i + 1), by omega, i + 1, _, rfl, hlt, m5.trans m₆, F₆, h1, ?_, ?_⟩
      · show some (D.int _) = _; congr 2; push_cast; omega
      · show some (D.int _) = _; congr 2
    · rw [c1] at hb
      have hge : i = takeN n f := by
        have : ¬ i < takeN n f := fun h => by
          have := t1.mp h
          simp [this.2] at hb; omega
        omega
      rw [← hge]; exact ⟨h2, h3⟩
  · obtain ⟨ρ, m₃, F₃, h1, h2, h3⟩ := h₃
    have m₃' := m₃
    refine wpAny_execs_cons (F₃.assign (m₃.pos T) (.inl rfl) (.subI (.callB ⟨rfl, rfl, rfl⟩ (G.ext F₃.ext).gl rfl GMm.len.1 GMm.len.2 (.cons (F₃.ev h1) .nil) fun s' vs X T' r' => .lenS r' (by rw [padded_length, sizeLine_eq]; omega)) .int) fun s₄ m₄ F₄ => ?_)
    rw [padded_length] at F₄
    have m4 := m₃.trans m₄
    refine seqW (fun s' => ∃ ρ, Sm s s' ∧ F₄.at ρ [] s'.heap ∧ ρ "s" = some (.str (padded f b)) ∧ ρ "lpos" = some (.int (takeN n f : Nat)) ∧ ρ "rpos" = some (.int (((f + 10 + b : Nat) : Int) - 1 - (takeN (n - takeN n f) b : Nat))))
      ?_ fun s₅ h₅ => ?_
    · refine While_of (fun k s' => ∃ (i : Nat) (ρ : Vars), k = b - i ∧ i ≤ takeN (n - takeN n f) b ∧ Sm s s' ∧ F₄.at ρ [] s'.heap ∧ ρ "s" = some (.str (padded f b)) ∧ ρ "amount" = some (.int (n - takeN n f - i)) ∧ ρ "lpos" = some (.int (takeN n f : Nat)) ∧ ρ "rpos" = some (.int (((f + 10 + b : Nat) : Int) - 1 - i))) b ?_ fun k s' hI => ?_
      · exact ⟨0, _, rfl, Nat.zero_le _, m4, F₄, h1, (by rw [← Int.sub_zero (n - (takeN n f : Nat))] at h2; exact h2), h3, (by show some (D.int _) = _; simp)⟩
      obtain ⟨i, ρ', rfl, hi, m', F', h1, h2, h3, h4⟩ := hI
      obtain ⟨t1, t2⟩ := tI (n - takeN n f) b i hi
      obtain ⟨c1, c2⟩ := padded_back (f := f) (b := b) (j := i) (by omega)
      refine ⟨m'.pos T, _, Tr.of_all (.and_cons (.int (F'.ev h2)) fun _ => .and_cons (.cmp (.itemS (F'.ev h1) (F'.ev h4) (by simp [fitsSsize]; omega) c2) .str .eqS) fun _ => .and_nil), fun hb s₄ E'' g => ?_, fun hb s₄ g => ⟨rfl, ρ', m'.trans g.sm, F'.grow g.keep, h1, h3, ?_⟩⟩
      · rw [c1] at hb
        have hlt : i < takeN (n - takeN n f) b := t1.mpr (by simpa using hb)
        refine wpAny_execs_cons ((F'.grow g.keep).aug (g.sm.pos (m'.pos T)) (.inl rfl) h4 .int (.inr ⟨rfl, rfl⟩) fun s₅ m₅ F₅ => ?_)
        have m5 := (m'.trans g.sm).trans m₅
        refine wpAny_execs_cons (F₅.aug (m5.pos T) (.inl rfl) (i := n - takeN n f - i) h2 .int (.inr ⟨rfl, rfl⟩) fun s₆ m₆ F₆ => ?_)
        refine wpAny_execs_nil ⟨b - (i + 1), by omega, i + 1, _, rfl, hlt, m5.trans m₆, F₆, h1, ?_, h3, ?_⟩
        · show some (D.int _) = _; congr 2; push_cast; omega
        · show some (D.int _) = _; congr 2; push_cast; omega
      · rw [c1] at hb
        have hge : i = takeN (n - takeN n f) b := by
          have : ¬ i < takeN (n - takeN n f) b := fun h => by
            have := t1.mp h
            simp [this.2] at hb; omega
          omega
        rw [← hge]; exact h4
    · obtain ⟨ρ', m₅, F₅, h1, h3, h4⟩ := h₅
      refine F₅.done m₅ T (Ev.cast (.sliceSS (F₅.ev h1) (F₅.ev h3) (.addI (F₅.ev h4) .int) (by rw [padded_length, sizeLine_eq]; omega)) ?_)
      have e : (((f + 10 + b : Nat) : Int) - 1 - (takeN (n - takeN n f) b : Nat)) + 1 = ((f + 10 + b - takeN (n - takeN n f) b : Nat) : Int) := by
        have := (tI (n - takeN n f) b 0 (Nat.zero_le _)).2
        omega
      rw [e, padded_slice (tI n f 0 (Nat.zero_le _)).2 (tI _ b 0 (Nat.zero_le _)).2]
end
end Mine

end

-- part W2
section
open PySem PySem.W PyProof.Rows
set_option Elab.async false
set_option linter.unusedVariables false
set_option pp.deepTerms false
set_option pp.maxSteps 1000
namespace Mine

/-- the front and back of a line through the steps -/
def lineStep (fb : Nat × Nat) (n : Int) : Nat × Nat :=
  if 0 < n then (fb.1 - takeN n fb.1, fb.2 - takeN (n - takeN n fb.1) fb.2) else (fb.1 + (0 - n).toNat, fb.2)
def lineF (steps : List Int) (order : List Nat) : Nat × Nat := order.foldl (fun fb k => lineStep fb (steps.getD k 0)) (0, 12)
def dInts (l : List Int) : D := .list (l.map .int)
def dNats (l : List Nat) : D := .list (l.map fun (k : Nat) => D.int (k : Int))
theorem getElem?_of_getD {l : List Int} {k : Nat} (h : k < l.length) : (l.map D.int)[k]? = some (D.int (l.getD k 0)) := by
  rw [List.getElem?_map, List.getElem?_eq_getElem h]
  simp [List.getD_eq_getElem?_getD, List.getElem?_eq_getElem h]

section
variable {prog : Program} {w : World} {A : Around} {N : Addr → Prop} {mg mb : Str → Option Value} {p : Params}

theorem mul_list (x : Str) (n : Int) : (Txt.mul x n).cps.toList = (List.replicate n.toNat x.cps.toList).flatten := by
  unfold Txt.mul
  by_cases h0 : n < 1
  · have : n.toNat = 0 := by omega
    rw [if_pos h0, this]; rfl
  · rw [if_neg h0]
    by_cases h1 : (n == 1 || x.length == 0) = true
    · rw [if_pos h1]
      rcases Bool.or_eq_true_iff.mp h1 with h2 | h2
      · have : n.toNat = 1 := by have := eq_of_beq h2; omega
        rw [this]; simp
      · have e : x.cps.toList = [] := by
          have : x.cps.size = 0 := eq_of_beq h2
          exact List.length_eq_zero_iff.mp (by simpa using this)
        rw [e]; simp
    · rw [if_neg h1]
      show (List.foldl (fun x1 x2 => x1 ++ x2) #[] (List.replicate n.toNat x.cps)).toList = _
      generalize n.toNat = m
      have : ∀ (m : Nat) (acc : Array Nat), (List.foldl (fun x1 x2 => x1 ++ x2) acc (List.replicate m x.cps)).toList = acc.toList ++ (List.replicate m x.cps.toList).flatten := by
        intro m
        induction m with
        | zero => intro acc; simp
        | succ m ih => intro acc; rw [List.replicate_succ, List.foldl_cons, ih]; simp [List.replicate_succ]
      simpa using this m #[]
theorem mul_ok {x : Str} {n : Int} (h0 : -1000 ≤ n) (h : n ≤ 1000) (hx : x.length ≤ 1000) : MulOk x n := by
  refine ⟨by rw [decide_eq_false (by omega), decide_eq_false (by omega)]; rfl, fun h1 _ => ?_, fun _ _ => ?_⟩
  · have h2 : (1000 : Int) ≤ (2 ^ 63 - 1) / n := Int.le_ediv_of_mul_le (by omega) (by omega)
    have h3 : (x.length : Int) ≤ 1000 := Int.ofNat_le.mpr hx
    omega
  · have h3 : x.length * n.toNat ≤ 1000 * 1000 := Nat.mul_le_mul hx (by omega)
    unfold Builtin.Str.tooLong
    rw [sizeLine_eq]
    exact decide_eq_false (by omega)
theorem replicate_flat (n : Nat) (c : Nat) : (List.replicate n [c]).flatten = List.replicate n c := by
  induction n with
  | zero => rfl
  | succ n ih => rw [List.replicate_succ, List.flatten_cons, ih]; rfl
theorem append_list (x y : Str) : (x ++ y).cps.toList = x.cps.toList ++ y.cps.toList := by
  show (x.cps ++ y.cps).toList = _
  simp
theorem sp_list (n : Int) : (Txt.mul (" " : Str) n).cps.toList = List.replicate n.toNat 32 := by
  rw [mul_list]
  exact replicate_flat _ 32

def inkS : Str := ⟨inkL.toArray⟩

theorem c_line {s : Shared} {vs : List Value} {steps : List Int} {order : List Nat} (GMm : GM mg mb) (G : GE (hd.heap_39 p) mg mb s.heap) (rm : Rm A 2) (hN : New N s.heap) (T : 0 < s.toks)
    (r : RepL N s.heap [dInts steps, dNats order, .str inkS] vs) (ho : ∀ k ∈ order, k < steps.length) (hs : ∀ x ∈ steps, -3 ≤ x ∧ x ≤ 3) (hl : order.length ≤ 100) (hsl : steps.length ≤ 100) :
    Gives prog w A N (.str (padded (lineF steps order).1 (lineF steps order).2)) (call (.ref 59) vs) s := by
  obtain ⟨v, v', v'', rfl, _, _, _⟩ := r.three
  refine enterF (ns := ["steps", "order", "ink"]) rm (G.k 59 _ rfl) rfl G.lim ⟨58, _, _, _, rfl, G.k 58 _ rfl, rfl, rfl⟩ rfl rfl hN T r rfl rfl (by decide) (fun m x hx => ?_) (by decide) rfl fun L N' ad s₁ E' F m rm' => ?_
  · simp only [List.mem_cons, List.not_mem_nil, or_false] at hx
    rcases hx with rfl | rfl | rfl <;> exact .inl rfl
  refine wpAny_execs_cons (F.assign (m.pos T) (.inl rfl) (d := .str (padded 0 12)) (Ev.cast (.addS (F.ev (d := .str inkS) rfl) (.mulS .str .int (mul_ok (by omega) (by omega) (by decide))) ?_) ?_) fun s₂ m₂ F₂ => ?_)
  · have e12 : (Txt.mul (" " : Str) 12).length = 12 := by
      show (Txt.mul (" " : Str) 12).cps.size = 12
      rw [← Array.length_toList, sp_list]; rfl
    rw [e12, sizeLine_eq]; decide
  · exact congrArg D.str (Str.ext_list (by rw [append_list, sp_list]; rfl))
  have m12 := m.trans m₂
  refine seqW (fun s' => ∃ ρ, Sm s s' ∧ F₂.at ρ [] s'.heap ∧ ρ "line" = some (.str (padded (lineF steps order).1 (lineF steps order).2))) ?_ fun s₃ h₃ => ?_
  · refine F₂.forD (fun s' => Sm s s') (fun _ _ x y => x.trans y) (fun _ x => x.pos T) m12 (.list rm'.hh (F₂.ev (d := dNats order) rfl)) (.name (.inl rfl)) (fun _ _ => trivial)
      (fun k ρ ac => ac = [] ∧ ρ "steps" = some (dInts steps) ∧ ρ "ink" = some (.str inkS) ∧ ∃ f b, f ≤ 3 * k ∧ b ≤ 12 ∧ (f, b) = (order.take k).foldl (fun fb k => lineStep fb (steps.getD k 0)) (0, 12) ∧ ρ "line" = some (.str (padded f b))) ?_ ?_ ?_ ?_
    · exact ⟨rfl, rfl, rfl, 0, 12, by omega, by omega, rfl, rfl⟩
    · rintro k ρ' ac' ⟨rfl, _⟩ e he; cases he
    · rintro k d ρ' ac' Bk' N'' s' E'' hd ⟨rfl, h1, h2, f, b, hf, hb, h3, h4⟩ hN' hbk F' m'
      have hd' : ∃ kk, order[k]? = some kk ∧ d = .int (kk : Int) := by
        rw [List.getElem?_map] at hd
        cases e : order[k]? with
        | none => rw [e] at hd; cases hd
        | some kk => rw [e] at hd; cases hd; exact ⟨kk, rfl, rfl⟩
      obtain ⟨kk, hkk, rfl⟩ := hd'
      have hk : k < order.length := (List.getElem?_eq_some_iff.mp hkk).1
      have hkl := ho kk (List.mem_of_getElem? hkk)
      have htk : order.take (k + 1) = order.take k ++ [kk] := by rw [List.take_add_one, hkk]; rfl
      generalize hn : steps.getD kk 0 = n
      have hn3 : -3 ≤ n ∧ n ≤ 3 := by
        rw [← hn, List.getD_eq_getElem?_getD, List.getElem?_eq_getElem hkl]
        exact hs _ (List.getElem_mem hkl)
      refine wpAny_execs_cons (F'.ite (m'.pos T) (.cmp (.itemL (F'.ev (d := dInts steps) h1) (F'.ev (d := .int kk) rfl) (by omega) (by omega) (d := .int n) (by rw [Int.toNat_natCast, getElem?_of_getD hkl, hn])) .int .gtI) (fun hb2 s₄ m₄ F₄ => ?_) fun hb2 s₄ m₄ F₄ => ?_)
      · have hpos : 0 < n := of_decide_eq_true hb2
        have m14 := m'.trans m₄
        refine wpAny_execs_cons (F₄.assign (m14.pos T) (.inl rfl) (.callF (ob := _) (fd := _) ⟨rfl, rfl, rfl⟩ (G.ext fun b o e => F₄.keep b o (hbk b o e)).gl rfl GMm.strip ((G.ext fun b o e => F₄.keep b o (hbk b o e)).k 35 _ rfl) rfl
          (.cons (F₄.ev h4) (.cons (.itemL (F₄.ev (d := dInts steps) h1) (F₄.ev (d := .int kk) rfl) (by omega) (by omega) (d := .int n) (by rw [Int.toNat_natCast, getElem?_of_getD hkl, hn])) .nil))
          fun s'' vs X T' r' => c_strip GMm ((G.ext fun b o e => F₄.keep b o (hbk b o e)).ext X) rm' (F₄.grow X).new T' r' (by omega) (by omega)) fun s₅ m₅ F₅ => ?_)
        refine wpAny_execs_nil (wpAny_execs_nil ⟨.inl rfl, m14.trans m₅, _, _, F₅, rfl, h1, h2, _, _, ?_, ?_, ?_, rfl⟩)
        · exact Nat.le_trans (Nat.sub_le ..) (by omega)
        · exact Nat.le_trans (Nat.sub_le ..) hb
        · rw [htk, List.foldl_append, ← h3]
          show _ = lineStep (f, b) (steps.getD kk 0)
          rw [hn, lineStep, if_pos hpos]
      · have hneg : ¬ 0 < n := of_decide_eq_false hb2
        have m14 := m'.trans m₄
        have hcat : Txt.mul (" " : Str) (0 - n) ++ padded f b = padded (f + (0 - n).toNat) b := by
          apply Str.ext_list
          rw [append_list, sp_list]
          show _ ++ padL f b = padL _ b
          unfold padL
          rw [Nat.add_comm f, ← List.replicate_append_replicate, List.append_assoc, List.append_assoc, List.append_assoc]
        refine wpAny_execs_cons (F₄.assign (m14.pos T) (.inl rfl) (Ev.cast (.addS (.mulS .str (.subI .int (.itemL (F₄.ev (d := dInts steps) h1) (F₄.ev (d := .int kk) rfl) (by omega) (by omega) (d := .int n) (by rw [Int.toNat_natCast, getElem?_of_getD hkl, hn]))) (mul_ok (by omega) (by omega) (by decide))) (F₄.ev h4) ?_) (congrArg D.str hcat)) fun s₅ m₅ F₅ => ?_)
        · have e1 : (Txt.mul (" " : Str) (0 - n)).length = (0 - n).toNat := by
            show (Txt.mul (" " : Str) (0 - n)).cps.size = _
            rw [← Array.length_toList, sp_list]; simp
          rw [e1, padded_length, sizeLine_eq]; omega
        refine wpAny_execs_nil (wpAny_execs_nil ⟨.inl rfl, m14.trans m₅, _, _, F₅, rfl, h1, h2, _, _, ?_, hb, ?_, rfl⟩)
        · omega
        · rw [htk, List.foldl_append, ← h3]
          show _ = lineStep (f, b) (steps.getD kk 0)
          rw [hn, lineStep, if_neg hneg]
    · rintro s' ρ' ac' m' F' ⟨rfl, h1, h2, f, b, hf, hb, h3, h4⟩
      refine ⟨rfl, ρ', m', F', ?_⟩
      rw [List.length_map, List.take_length] at h3
      rw [h4, lineF, ← h3]
  · obtain ⟨ρ, m₃, F₃, h1⟩ := h₃
    exact F₃.done m₃ T (F₃.ev h1)
end
end Mine

end

-- part W3
section
open PySem PySem.W PyProof.Rows
set_option Elab.async false
set_option linter.unusedVariables false
set_option pp.deepTerms false
set_option pp.maxSteps 1000
namespace Mine

def cellsAt (l : List Int) : Nat → List Int
  | 0 => [3, 2, 4, 1]
  | k + 1 => (cellsAt l k).set (k % 4) ((cellsAt l k).getD (k % 4) 0 + l.getD k 0)
def stepOf (c : Int) : Int := [-3, -2, -1, 1, 2, 3].getD (c.fmod 6).toNat 0
def stepsF (l : List Int) : List Int := (cellsAt l l.length).map stepOf
theorem cellsAt_length (l : List Int) : ∀ k, (cellsAt l k).length = 4
  | 0 => rfl
  | k + 1 => by rw [cellsAt, List.length_set, cellsAt_length l k]

theorem fmod_nat (k m : Nat) : Int.fmod (k : Int) (m : Int) = ((k % m : Nat) : Int) := by
  rw [Int.fmod_eq_emod_of_nonneg _ (by omega)]; rfl

section
variable {prog : Program} {w : World} {A : Around} {N : Addr → Prop} {mg mb : Str → Option Value} {p : Params}

theorem list_get {l : List Int} {k : Nat} (h : k < l.length) : l[k]? = some (l.getD k 0) := by
  rw [List.getElem?_eq_getElem h]; simp [List.getD_eq_getElem?_getD, List.getElem?_eq_getElem h]

theorem c_steps {s : Shared} {vs : List Value} {l : List Int} (GMm : GM mg mb) (G : GE (hd.heap_39 p) mg mb s.heap) (rm : Rm A 1) (hN : New N s.heap) (T : 0 < s.toks)
    (r : RepL N s.heap [.script l] vs) (hl : l.length ≤ 63) : Gives prog w A N (dInts (stepsF l)) (call (.ref 40) vs) s := by
  obtain ⟨v, rfl, _⟩ := r.one
  refine enterF (ns := ["script"]) rm (G.k 40 _ rfl) rfl G.lim ⟨39, _, _, _, rfl, G.k 39 _ rfl, rfl, rfl⟩ rfl rfl hN T r rfl rfl (by decide) (fun m x hx => ?_) (by decide) rfl fun L N' ad s₁ E' F m rm' => ?_
  · simp only [List.mem_cons, List.not_mem_nil, or_false] at hx
    rcases hx with rfl; exact .inl rfl
  refine wpAny_execs_cons (F.newAcc (m.pos T) (.inl rfl) (.cons .int (.cons .int (.cons .int (.cons .int .nil)))) (by decide) fun s₂ a m₂ Na F₂ => ?_)
  have m12 := m.trans m₂
  refine seqW (fun s' => ∃ ρ, Sm s s' ∧ F₂.at ρ [(("cells" : Str), (cellsAt l l.length).map D.int)] s'.heap) ?_ fun s₃ h₃ => ?_
  · refine F₂.forD (fun s' => Sm s s') (fun _ _ x y => x.trans y) (fun _ x => x.pos T) m12 (.range rm'.hh ⟨rfl, rfl, rfl⟩ (G.ext F₂.ext).gl rfl GMm.range.1 GMm.range.2
        (.callB ⟨rfl, rfl, rfl⟩ (G.ext F₂.ext).gl rfl GMm.len.1 GMm.len.2 (.cons (F₂.ev (d := .script l) rfl) .nil) fun s' vs X T' r' => .lenScript r' (by rw [sizeLine_eq]; omega)) (by omega) (by omega)) (.name (.inl rfl)) (fun _ _ => trivial)
      (fun k ρ ac => ac = [(("cells" : Str), (cellsAt l k).map D.int)] ∧ ρ "script" = some (.script l)) ?_ ?_ ?_ ?_
    · exact ⟨rfl, rfl⟩
    · rintro k ρ' ac' ⟨rfl, _⟩ e he
      exact ⟨_, List.mem_singleton.mpr rfl, by rw [List.mem_singleton.mp he]⟩
    · rintro k d ρ' ac' Bk' N'' s' E'' hd ⟨rfl, h1⟩ hN' hbk F' m'
      obtain ⟨hk, rfl⟩ := upto_get hd
      have hk' : k < l.length := by simpa using hk
      have hm : (("cells" : Str), (cellsAt l k).map D.int) ∈ (Accs.del [(("cells" : Str), (cellsAt l k).map D.int)] "k") := List.mem_singleton.mpr rfl
      have Ff := F'.freeze hm (by decide)
      have hc : k % 4 < (cellsAt l k).length := by rw [cellsAt_length]; omega
      have ek : ((k : Int).fmod 4).toNat = k % 4 := by rw [show (4 : Int) = ((4 : Nat) : Int) from rfl, fmod_nat, Int.toNat_natCast]
      have ek0 : 0 ≤ (k : Int).fmod 4 ∧ (k : Int).fmod 4 < 4 := by rw [show (4 : Int) = ((4 : Nat) : Int) from rfl, fmod_nat]; omega
      refine wpAny_execs_cons (F'.setItem (m'.pos T) hm (by decide) (.modI (F'.ev (d := .int k) rfl) .int (by decide))
        (.intN (.addI (.itemL (Ff.ev (d := .list ((cellsAt l k).map D.int)) rfl) (.modI (Ff.ev (d := .int k) rfl) .int (by decide)) ek0.1 (by omega) (d := .int ((cellsAt l k).getD (k % 4) 0)) (by rw [ek, getElem?_of_getD hc]))
          (.itemT (Ff.ev (d := .script l) h1) (Ff.ev (d := .int k) rfl) (by omega) (by omega) (d := l.getD k 0) (by rw [Int.toNat_natCast, list_get hk'])))) ek0.1 (by rw [List.length_map, cellsAt_length]; omega) (by omega) fun s₄ m₄ F₄ => ?_)
      refine wpAny_execs_nil ⟨.inl rfl, m'.trans m₄, _, _, F₄, ?_, h1⟩
      rw [ek]
      show Accs.put [(("cells" : Str), (cellsAt l k).map D.int)] "cells" _ = _
      unfold Accs.put
      rw [cellsAt, List.map_set]; rfl
    · rintro s' ρ' ac' m' F' ⟨rfl, h1⟩
      refine ⟨rfl, ρ', m', ?_⟩
      have e : (upto (l.length : Int).toNat).length = l.length := by unfold upto; simp
      rw [e] at F'
      exact F'
  · obtain ⟨ρ, m₃, F₃⟩ := h₃
    have Ff := F₃.freeze (x := "cells") (List.mem_singleton.mpr rfl) (by decide)
    refine Ff.done m₃ T ?_
    refine Ev.cast (Ev.comp (ρc := fun _ => none) (cl := []) ⟨rfl, fun c hc => (by cases hc), rfl, by decide, by decide, fun x d e => (by cases e)⟩ Ff.new Ff.vars Ff.cells (.list rm'.hh (Ff.ev (d := .list ((cellsAt l l.length).map D.int)) rfl))
      (.one (fun _ => true) (fun d => match d with | .int c => .int (stepOf c) | d => d) (fun C => .name (.inl rfl)) (fun _ _ => trivial) (fun _ => rfl) (fun d ρ ρ' _ h => h.put _ _) (fun d ρ' _ h => h.skip _ rfl) (by rw [List.length_map, cellsAt_length, sizeLine_eq]; omega) ?_)) ?_
    · intro C Bk N ad ac s d hd F X T
      refine ⟨.none, fun _ => ?_⟩
      obtain ⟨c, _, rfl⟩ := List.mem_map.mp hd
      have e0 : 0 ≤ c.fmod 6 ∧ c.fmod 6 < 6 := by rw [Int.fmod_eq_emod_of_nonneg _ (by decide)]; omega
      refine .itemL (ds := [.int (-3), .int (-2), .int (-1), .int 1, .int 2, .int 3]) (.list F.new (.cons (.neg .int) (.cons (.neg .int) (.cons (.neg .int) (.cons .int (.cons .int (.cons .int .nil)))))) (by decide)) (.modI (F.ev (d := .int c) rfl) .int (by decide)) e0.1 (by omega) ?_
      show _ = some (D.int (stepOf c))
      unfold stepOf
      have : (c.fmod 6).toNat = 0 ∨ (c.fmod 6).toNat = 1 ∨ (c.fmod 6).toNat = 2 ∨ (c.fmod 6).toNat = 3 ∨ (c.fmod 6).toNat = 4 ∨ (c.fmod 6).toNat = 5 := by omega
      rcases this with h | h | h | h | h | h <;> rw [h] <;> rfl
    · show D.list _ = D.list _
      congr 1
      rw [List.filter_eq_self.mpr (fun _ _ => rfl), List.map_map, stepsF, List.map_map]
      rfl
end
end Mine

end

-- part W4
section
open PySem PySem.W PyProof.Rows
set_option Elab.async false
set_option linter.unusedVariables false
set_option pp.deepTerms false
set_option pp.maxSteps 1000
namespace Mine

theorem FSN.thaw {env : Env} {Bk Bk₀ : Addr → Obj → Prop} {Z N₀ N N₁ : Addr → Prop} {ad ad₁ : Str → Addr} {ρ ρ₀ : Vars} {ac ac₀ : Accs} {h h₀ : Heap} (F : FSN env Bk Z N₀ N₁ ad₁ ρ ac h) (F₀ : FSN env Bk₀ Z N₀ N ad ρ₀ ac₀ h₀)
    (hN : ∀ a, N₁ a → N a) (hac : ∀ e ∈ ac, ad₁ e.1 = ad e.1 ∧ ∃ f ∈ ac₀, f.1 = e.1) : FSN env Bk Z N₀ N ad ρ ac h := by
  have mu : ∀ a, Mut env ad ac a ↔ Mut env ad₁ ac a := fun a => by
    constructor
    · rintro (e | e | ⟨e, he, e'⟩)
      · exact .inl e
      · exact .inr (.inl e)
      · exact .inr (.inr ⟨e, he, by rw [(hac e he).1]; exact e'⟩)
    · rintro (e | e | ⟨e, he, e'⟩)
      · exact .inl e
      · exact .inr (.inl e)
      · exact .inr (.inr ⟨e, he, by rw [← (hac e he).1]; exact e'⟩)
  have F1 : FSN env Bk Z N₀ N₁ ad ρ ac h := by
    refine { F with sub := fun a ha => ?_, off := fun a o b hM => ?_, accs := fun e he => ?_, aoff := fun e he => ?_, aapart := fun e he f hf hne => ?_, anew := fun e he a ha => ?_ }
    · exact ⟨(F.sub a ha).1, (F.sub a ha).2.1, fun hM => (F.sub a ha).2.2 ((mu a).mp hM)⟩
    · exact F.off a o b ((mu a).mp hM)
    · rw [← (hac e he).1]; exact F.accs e he
    · rw [← (hac e he).1]; exact F.aoff e he
    · rw [← (hac e he).1, ← (hac f hf).1]; exact F.aapart e he f hf hne
    · exact F.anew e he a (ha.trans (hac e he).1.symm)
  refine F1.widen hN fun a ha => ⟨(F₀.sub a ha).1, (F₀.sub a ha).2.1, fun hM => (F₀.sub a ha).2.2 ?_⟩
  rcases hM with e | e | ⟨e, he, e'⟩
  · exact .inl e
  · exact .inr (.inl e)
  · obtain ⟨_, f, hf, hfe⟩ := hac e he
    exact .inr (.inr ⟨f, hf, by rw [hfe]; exact e'⟩)

def ordersAt : Nat → List (List Nat)
  | 0 => [[]]
  | k + 1 => (ordersAt k).flatMap fun o => (List.range (k + 1)).map fun i => o.take i ++ [k] ++ o.drop i
def dOrders (l : List (List Nat)) : D := .list (l.map dNats)
theorem ordersAt_len : ∀ (k : Nat) (o : List Nat), o ∈ ordersAt k → o.length = k
  | 0, o, h => by rw [List.mem_singleton.mp h]; rfl
  | k + 1, o, h => by
    obtain ⟨o', h1, h2⟩ := List.mem_flatMap.mp h
    obtain ⟨i, _, rfl⟩ := List.mem_map.mp h2
    have := ordersAt_len k o' h1
    simp; omega
def insD (k : Nat) (d e : D) : D := match d, e with | .list o, .int i => .list (o.take i.toNat ++ [.int (k : Int)] ++ o.drop i.toNat) | d, _ => d
theorem insD_eq (k : Nat) (o : List Nat) (i : Nat) : insD k (dNats o) (.int (i : Int)) = dNats (o.take i ++ [k] ++ o.drop i) := by
  show D.list _ = D.list _
  rw [Int.toNat_natCast, List.map_append, List.map_append, List.map_take, List.map_drop]; rfl

theorem one_le : 1 ≤ sizeLine := by decide
theorem of_one {n x : Str} {d0 d : D} (e : Vars.of [(n, d0)] x = some d) : x = n ∧ d = d0 := by
  unfold Vars.of at e
  rw [List.lookup_cons] at e
  split at e
  · rename_i h; cases e; exact ⟨beq_iff_eq.mp h, rfl⟩
  · cases e

section
variable {prog : Program} {w : World} {A : Around} {N : Addr → Prop} {mg mb : Str → Option Value} {p : Params}

theorem c_orders {s : Shared} (GMm : GM mg mb) (G : GE (hd.heap_39 p) mg mb s.heap) (rm : Rm A 1) (hN : New N s.heap) (T : 0 < s.toks) : Gives prog w A N (dOrders (ordersAt 4)) (call (.ref 45) []) s := by
  refine enterF (ns := []) (ds := []) rm (G.k 45 _ rfl) rfl G.lim ⟨44, _, _, _, rfl, G.k 44 _ rfl, rfl, rfl⟩ rfl rfl hN T RepL.nil rfl rfl (by decide) (fun m x hx => by cases hx) (by decide) rfl fun L N' ad s₁ E' F m rm' => ?_
  refine wpAny_execs_cons (F.assign (m.pos T) (.inl rfl) (d := dOrders (ordersAt 0)) (.list F.new (.cons (.list F.new .nil (by decide)) .nil) (by decide)) fun s₂ m₂ F₂ => ?_)
  have m12 := m.trans m₂
  refine seqW (fun s' => ∃ ρ, Sm s s' ∧ F₂.at ρ [] s'.heap ∧ ρ "orders" = some (dOrders (ordersAt 4))) ?_ fun s₃ h₃ => ?_
  · refine F₂.forD (fun s' => Sm s s') (fun _ _ x y => x.trans y) (fun _ x => x.pos T) m12 (.range rm'.hh ⟨rfl, rfl, rfl⟩ (G.ext F₂.ext).gl rfl GMm.range.1 GMm.range.2 .int (by omega) (by omega)) (.name (.inr ⟨rfl, rfl, _, rfl⟩)) (fun _ _ => trivial)
      (fun k ρ ac => ac = [] ∧ ρ "orders" = some (dOrders (ordersAt k))) ?_ ?_ ?_ ?_
    · exact ⟨rfl, rfl⟩
    · rintro k ρ' ac' ⟨rfl, _⟩ e he; cases he
    · rintro k d ρ' ac' Bk' N'' s' E'' hdk ⟨rfl, h1⟩ hN' hbk F' m'
      obtain ⟨hk, rfl⟩ := upto_get hdk
      have hk4 : k < 4 := hk
      have hup : (upto (k + 1)).length = k + 1 := by unfold upto; simp
      have hG : GE (hd.heap_39 p) mg mb s'.heap := G.ext fun b o e => F'.keep b o (hbk b o e)
      refine wpAny_execs_cons (F'.assignC (m'.pos T) (.inl rfl) (cl := [("k", L + 1)]) (ρc := Vars.of [("k", .int k)]) (ds := (ordersAt k).map dNats) ⟨rfl, fun c hc => hc, rfl, by decide, by decide, fun x d e => ?_⟩ (.list rm'.hh (F'.ev (d := dOrders (ordersAt k)) h1))
        (.two (T2 := false) (fun _ => upto (k + 1)) (insD k) (fun C => .name (.inl rfl)) (fun _ _ => trivial) (fun _ => rfl) (fun C => .name (.inl rfl)) (fun _ _ _ _ => trivial) (fun _ => rfl) (fun d ρ ρ' _ h => h.put _ _) (fun d ρ' _ h => h.skip _ rfl) (fun d ρ ρ' _ h => h.put _ _) (fun d e ρ' _ _ h => h.skip _ rfl) ?_ ?_ ?_)
        fun s₄ m₄ F₄ => ?_)
      · obtain ⟨rfl, rfl⟩ := of_one e
        exact ⟨rfl, rfl, rfl, rfl⟩
      · have hlen : ∀ (l : List D), (l.flatMap fun d => (upto (k + 1)).map (insD k d)).length = l.length * (k + 1) := fun l => by
          induction l with
          | nil => simp
          | cons d l ih => rw [List.flatMap_cons, List.length_append, ih, List.length_map, hup, List.length_cons, Nat.succ_mul]; omega
        rw [hlen, List.length_map, sizeLine_eq]
        have hc : k = 0 ∨ k = 1 ∨ k = 2 ∨ k = 3 := by omega
        rcases hc with rfl | rfl | rfl | rfl <;> decide
      · intro C Bk N ad ac s d hd' F X T
        exact .range rm'.hh ⟨rfl, rfl, rfl⟩ (hG.ext X).gl rfl GMm.range.1 GMm.range.2 (.addI (F.ev (d := .int k) rfl) .int) (by omega) (by omega)
      · intro C Bk N ad ac s d e hd' he' F X T
        obtain ⟨o, ho, rfl⟩ := List.mem_map.mp hd'
        obtain ⟨i, hi⟩ := List.getElem?_of_mem he'
        obtain ⟨_, rfl⟩ := upto_get hi
        have hol := ordersAt_len k o ho
        have h0 : (0 : Int) ≤ (i : Int) := by omega
        exact .addL F.new (.addL F.new (.sliceTo F.new (F.ev (d := dNats o) rfl) (F.ev (d := .int i) rfl) h0 (by rw [List.length_map, sizeLine_eq]; omega)) (.list F.new (.cons (F.ev (d := .int k) rfl) .nil) one_le)
          (by simp [sizeLine_eq]; omega)) (.sliceFrom F.new (F.ev (d := dNats o) rfl) (F.ev (d := .int i) rfl) h0 (by rw [List.length_map, sizeLine_eq]; omega)) (by simp [sizeLine_eq]; omega)
      · refine wpAny_execs_nil ⟨.inl rfl, m'.trans m₄, _, _, F₄, rfl, ?_⟩
        show some (D.list _) = some (D.list _)
        congr 2
        show _ = (ordersAt (k + 1)).map dNats
        rw [ordersAt, List.map_flatMap, List.flatMap_map]
        congr 1
        funext o
        unfold upto
        rw [List.map_map, List.map_map]
        have e : (((k : Nat) : Int) + 1).toNat = k + 1 := by omega
        refine List.map_congr_left fun i _ => ?_
        exact insD_eq k o i
    · rintro s' ρ' ac' m' F' ⟨rfl, h1⟩
      exact ⟨rfl, ρ', m', F', h1⟩
  · obtain ⟨ρ, m₃, F₃, h1⟩ := h₃
    exact F₃.done m₃ T (F₃.ev h1)

/-- the heaps -/
def waysAt : Nat → List (List (List Nat))
  | 0 => [[]]
  | k + 1 => (waysAt k).flatMap fun w => (w ++ [[k]]) :: (List.range w.length).map fun i => w.take i ++ [w.getD i [] ++ [k]] ++ w.drop (i + 1)
def dWay (w : List (List Nat)) : D := .list (w.map dNats)
def dWays (l : List (List (List Nat))) : D := .list (l.map dWay)
theorem waysAt_len : ∀ (k : Nat) (w : List (List Nat)), w ∈ waysAt k → w.length ≤ k ∧ ∀ o ∈ w, o.length ≤ k
  | 0, w, h => by rw [List.mem_singleton.mp h]; exact ⟨Nat.le_refl _, fun o ho => by cases ho⟩
  | k + 1, w, h => by
    obtain ⟨w', h1, h2⟩ := List.mem_flatMap.mp h
    obtain ⟨i1, i2⟩ := waysAt_len k w' h1
    rcases List.mem_cons.mp h2 with rfl | h2
    · refine ⟨by simp; omega, fun o ho => ?_⟩
      rcases List.mem_append.mp ho with ho | ho
      · exact Nat.le_succ_of_le (i2 o ho)
      · rw [List.mem_singleton.mp ho]; simp
    · obtain ⟨i, hi, rfl⟩ := List.mem_map.mp h2
      have hi' : i < w'.length := List.mem_range.mp hi
      refine ⟨by simp; omega, fun o ho => ?_⟩
      rcases List.mem_append.mp ho with ho | ho
      · rcases List.mem_append.mp ho with ho | ho
        · exact Nat.le_succ_of_le (i2 o (List.mem_of_mem_take ho))
        · rw [List.mem_singleton.mp ho, List.length_append]
          have : (w'.getD i []).length ≤ k := by
            rw [List.getD_eq_getElem?_getD, List.getElem?_eq_getElem hi']
            exact i2 _ (List.getElem_mem hi')
          simp only [List.length_cons, List.length_nil]; omega
      · exact Nat.le_succ_of_le (i2 o (List.mem_of_mem_drop ho))

theorem take_flat {α β : Type} (l : List α) (f : α → List β) (j : Nat) : ((l.take j).flatMap f).length ≤ (l.flatMap f).length := by
  conv => rhs; rw [← List.take_append_drop j l]
  rw [List.flatMap_append, List.length_append]
  exact Nat.le_add_right ..
def wayStep (k : Nat) (w : List (List Nat)) : List (List (List Nat)) := (w ++ [[k]]) :: (List.range w.length).map fun i => w.take i ++ [w.getD i [] ++ [k]] ++ w.drop (i + 1)
theorem wayD_end (k : Nat) (w : List (List Nat)) : D.list (w.map dNats ++ [.list [.int (k : Int)]]) = dWay (w ++ [[k]]) := by
  show D.list _ = D.list _
  rw [List.map_append]; rfl
theorem wayD_in (k : Nat) (w : List (List Nat)) (i : Nat) : D.list (((w.map dNats).take i ++ [.list ((w.getD i []).map (fun (k : Nat) => D.int (k : Int)) ++ [.int (k : Int)])]) ++ (w.map dNats).drop (i + 1)) = dWay (w.take i ++ [w.getD i [] ++ [k]] ++ w.drop (i + 1)) := by
  show D.list _ = D.list _
  rw [List.map_append, List.map_append, List.map_take, List.map_drop]
  show D.list (_ ++ [D.list _] ++ _) = D.list (_ ++ [D.list _] ++ _)
  rw [List.map_append]; rfl

theorem c_ways {s : Shared} (GMm : GM mg mb) (G : GE (hd.heap_39 p) mg mb s.heap) (rm : Rm A 1) (hN : New N s.heap) (T : 0 < s.toks) : Gives prog w A N (dWays (waysAt 4)) (call (.ref 52) []) s := by
  refine enterF (ns := []) (ds := []) rm (G.k 52 _ rfl) rfl G.lim ⟨51, _, _, _, rfl, G.k 51 _ rfl, rfl, rfl⟩ rfl rfl hN T RepL.nil rfl rfl (by decide) (fun m x hx => by cases hx) (by decide) rfl fun L N' ad s₁ E' F m rm' => ?_
  refine wpAny_execs_cons (F.assign (m.pos T) (.inl rfl) (d := dWays (waysAt 0)) (.list F.new (.cons (.list F.new .nil (by decide)) .nil) (by decide)) fun s₂ m₂ F₂ => ?_)
  have m12 := m.trans m₂
  refine seqW (fun s' => ∃ ρ, Sm s s' ∧ F₂.at ρ [] s'.heap ∧ ρ "ways" = some (dWays (waysAt 4))) ?_ fun s₃ h₃ => ?_
  · refine F₂.forD (fun s' => Sm s s') (fun _ _ x y => x.trans y) (fun _ x => x.pos T) m12 (.range rm'.hh ⟨rfl, rfl, rfl⟩ (G.ext F₂.ext).gl rfl GMm.range.1 GMm.range.2 .int (by omega) (by omega)) (.name (.inl rfl)) (fun _ _ => trivial)
      (fun k ρ ac => ac = [] ∧ ρ "ways" = some (dWays (waysAt k))) ?_ ?_ ?_ ?_
    · exact ⟨rfl, rfl⟩
    · rintro k ρ' ac' ⟨rfl, _⟩ e he; cases he
    · rintro k d ρ' ac' Bk' N'' s' E'' hdk ⟨rfl, h1⟩ hN' hbk F' m'
      obtain ⟨hk, rfl⟩ := upto_get hdk
      have hk4 : k < 4 := hk
      have hG : GE (hd.heap_39 p) mg mb s'.heap := G.ext fun b o e => F'.keep b o (hbk b o e)
      have hsz : ∀ j, ((((waysAt k).take j).flatMap fun w => (w ++ [[k]]) :: (List.range w.length).map fun i => w.take i ++ [w.getD i [] ++ [k]] ++ w.drop (i + 1)).map dWay).length ≤ 1000 := fun j => by
        rw [List.length_map]
        refine Nat.le_trans (take_flat _ _ j) ?_
        have hc : k = 0 ∨ k = 1 ∨ k = 2 ∨ k = 3 := by omega
        rcases hc with rfl | rfl | rfl | rfl <;> decide
      refine wpAny_execs_cons (F'.newAcc (x := "more") (m'.pos T) (.inl rfl) .nil (by decide) fun s₄ a m₄ Na F₄ => ?_)
      have m14 := m'.trans m₄
      refine seqW (fun s' => ∃ ρ, Sm s s' ∧ F₄.at ρ [(("more" : Str), (waysAt (k + 1)).map dWay)] s'.heap) ?_ fun s₅ h₅ => ?_
      · refine F₄.forD (fun s' => Sm s s') (fun _ _ x y => x.trans y) (fun _ x => x.pos T) m14 (.list rm'.hh (F₄.ev (d := dWays (waysAt k)) h1)) (.name (.inl rfl)) (fun _ _ => trivial)
          (fun j ρ ac => ac = [(("more" : Str), (((waysAt k).take j).flatMap fun w => (w ++ [[k]]) :: (List.range w.length).map fun i => w.take i ++ [w.getD i [] ++ [k]] ++ w.drop (i + 1)).map dWay)] ∧ ρ "k" = some (.int k)) ?_ ?_ ?_ ?_
        · exact ⟨rfl, rfl⟩
        · rintro k ρ' ac' ⟨rfl, _⟩ e he
          exact ⟨_, List.mem_singleton.mpr rfl, by rw [List.mem_singleton.mp he]⟩
        · rintro j d ρ₅ ac₅ Bk₅ N₅ s₅ E₅ hdj ⟨rfl, h2⟩ hN₅ hbk₅ F₅ m₅
          have hdj' : ∃ w, (waysAt k)[j]? = some w ∧ d = dWay w := by
            rw [List.getElem?_map] at hdj
            cases e : (waysAt k)[j]? with
            | none => rw [e] at hdj; cases hdj
            | some w => rw [e] at hdj; cases hdj; exact ⟨w, rfl, rfl⟩
          obtain ⟨w, hw, rfl⟩ := hdj'
          have hwl := waysAt_len k w (List.mem_of_getElem? hw)
          have htk : (waysAt k).take (j + 1) = (waysAt k).take j ++ [w] := by rw [List.take_add_one, hw]; rfl
          generalize hpre : ((waysAt k).take j).flatMap (fun w => (w ++ [[k]]) :: (List.range w.length).map fun i => w.take i ++ [w.getD i [] ++ [k]] ++ w.drop (i + 1)) = pre at F₅
          have hall : ∀ i, i ≤ w.length → ((pre ++ (w ++ [[k]]) :: ((List.range w.length).take i).map fun i => w.take i ++ [w.getD i [] ++ [k]] ++ w.drop (i + 1)).map dWay).length ≤ 1000 := fun i hi => by
            have := hsz (j + 1)
            rw [htk, List.flatMap_append, hpre, List.flatMap_cons, List.flatMap_nil, List.append_nil] at this
            refine Nat.le_trans ?_ this
            simp only [List.length_map, List.length_append, List.length_cons, List.length_take, List.length_range]
            omega
          have hpl : pre.length ≤ 1000 := by
            have := hall 0 (Nat.zero_le _); simp at this; omega
          refine wpAny_execs_cons (F₅.append (m₅.pos T) (ds := pre.map dWay) (List.mem_singleton.mpr rfl) (Ev.cast (.addL F₅.new (F₅.ev (d := dWay w) rfl) (.list F₅.new (.cons (.list F₅.new (.cons (F₅.ev (d := .int k) h2) .nil) one_le) .nil) one_le) (by simp [sizeLine_eq]; omega)) (wayD_end k w))
            (by rw [List.length_map, sizeLine_eq]; omega) (by decide) fun s₆ m₆ F₆ => ?_)
          have m16 := m₅.trans m₆
          have hG₆ : GE (hd.heap_39 p) mg mb s₆.heap := G.ext fun b o e => F₆.keep b o (hbk₅ b o (hbk b o e))
          refine seqW (fun s' => ∃ ρ, Sm s s' ∧ F₆.at ρ [(("more" : Str), (pre ++ (w ++ [[k]]) :: (List.range w.length).map fun i => w.take i ++ [w.getD i [] ++ [k]] ++ w.drop (i + 1)).map dWay)] s'.heap ∧ ρ "k" = some (.int k)) ?_ fun s₇ h₇ => ?_
          · refine F₆.forD (fun s' => Sm s s') (fun _ _ x y => x.trans y) (fun _ x => x.pos T) m16 (.range rm'.hh ⟨rfl, rfl, rfl⟩ hG₆.gl rfl GMm.range.1 GMm.range.2 (.callB ⟨rfl, rfl, rfl⟩ hG₆.gl rfl GMm.len.1 GMm.len.2 (.cons (F₆.ev (d := dWay w) rfl) .nil)
                fun s' vs X T' r' => .lenL r' (by rw [List.length_map, sizeLine_eq]; omega)) (by omega) (by rw [List.length_map]; omega)) (.name (.inl rfl)) (fun _ _ => trivial)
              (fun i ρ ac => ac = [(("more" : Str), (pre ++ (w ++ [[k]]) :: ((List.range w.length).take i).map fun i => w.take i ++ [w.getD i [] ++ [k]] ++ w.drop (i + 1)).map dWay)] ∧ ρ "k" = some (.int k) ∧ ρ "way" = some (dWay w)) ?_ ?_ ?_ ?_
            · refine ⟨?_, h2, rfl⟩
              show Accs.put [(("more" : Str), pre.map dWay)] "more" _ = _
              unfold Accs.put
              simp
            · rintro i ρ' ac' ⟨rfl, _⟩ e he
              exact ⟨(("more" : Str), _), List.mem_singleton.mpr rfl, by rw [List.mem_singleton.mp he]⟩
            · rintro i d ρ₇ ac₇ Bk₇ N₇ s₇ E₇ hdi ⟨rfl, h3, h4⟩ hN₇ hbk₇ F₇ m₇
              obtain ⟨hi, rfl⟩ := upto_get hdi
              have hi' : i < w.length := by simpa using hi
              have h0 : (0 : Int) ≤ (i : Int) := by omega
              have hwi : (w.map dNats)[i]? = some (dNats (w.getD i [])) := by
                rw [List.getElem?_map, List.getElem?_eq_getElem hi']
                simp [List.getD_eq_getElem?_getD, List.getElem?_eq_getElem hi']
              have hol : (w.getD i []).length ≤ k := by
                rw [List.getD_eq_getElem?_getD, List.getElem?_eq_getElem hi']
                exact hwl.2 _ (List.getElem_mem hi')
              have e1 : (((i : Nat) : Int) + 1).toNat = i + 1 := by omega
              refine wpAny_execs_cons (F₇.append (d := dWay (w.take i ++ [w.getD i [] ++ [k]] ++ w.drop (i + 1))) (m₇.pos T) (List.mem_singleton.mpr rfl) (Ev.cast (.addL F₇.new (.addL F₇.new (.sliceTo F₇.new (F₇.ev (d := dWay w) h4) (F₇.ev (d := .int i) rfl) h0 (by rw [List.length_map, sizeLine_eq]; omega))
                (.list F₇.new (.cons (.addL F₇.new (.itemL (F₇.ev (d := dWay w) h4) (F₇.ev (d := .int i) rfl) h0 (by omega) (d := dNats (w.getD i [])) (by rw [Int.toNat_natCast]; exact hwi)) (.list F₇.new (.cons (F₇.ev (d := .int k) h3) .nil) one_le) (by show ((w.getD i []).map _).length + 1 ≤ sizeLine; rw [List.length_map, sizeLine_eq]; omega)) .nil) one_le)
                (by simp [sizeLine_eq] <;> omega)) (.sliceFrom F₇.new (F₇.ev (d := dWay w) h4) (.addI (F₇.ev (d := .int i) rfl) .int) (by omega) (by rw [List.length_map, sizeLine_eq]; omega)) (by simp [sizeLine_eq] <;> omega)) (by rw [Int.toNat_natCast, e1]; exact wayD_in k w i))
                (by have := hall i (by omega); rw [sizeLine_eq]; omega) (by decide) fun s₈ m₈ F₈ => ?_)
              refine wpAny_execs_nil ⟨.inl rfl, m₇.trans m₈, _, _, F₈, ?_, h3, h4⟩
              show Accs.put [(("more" : Str), _)] "more" _ = _
              have htk2 : (List.range w.length).take (i + 1) = (List.range w.length).take i ++ [i] := by
                rw [List.take_add_one, List.getElem?_range hi']; rfl
              unfold Accs.put
              rw [htk2]
              simp
            · rintro s₇ ρ₇ ac₇ m₇ F₇ ⟨rfl, h3, h4⟩
              refine ⟨rfl, ρ₇, m₇, ?_, h3⟩
              have e : (List.range w.length).take (upto ((w.map dNats).length : Int).toNat).length = List.range w.length := by
                unfold upto; rw [List.length_map, List.length_map, List.length_range]; simp
              rw [e] at F₇
              exact F₇
          · obtain ⟨ρ₇, m₇, F₇, h3⟩ := h₇
            refine wpAny_execs_nil ⟨.inl rfl, m₇, _, _, F₇, ?_, h3⟩
            rw [htk, List.flatMap_append, hpre]
            simp
        · rintro s₆ ρ₆ ac₆ m₆ F₆ ⟨rfl, h2⟩
          refine ⟨rfl, ρ₆, m₆, ?_⟩
          rw [List.length_map, List.take_length] at F₆
          exact F₆
      · obtain ⟨ρ₅, m₅, F₅⟩ := h₅
        have Ff := F₅.freeze (x := "more") (List.mem_singleton.mpr rfl) (by decide)
        refine wpAny_execs_cons (Ff.assign (m₅.pos T) (.inl rfl) (Ff.ev (x := "more") (d := dWays (waysAt (k + 1))) rfl) fun s₆ m₆ F₆ => ?_)
        refine wpAny_execs_nil ⟨.inl rfl, m₅.trans m₆, _, _, F₆.thaw F' (fun b hb => ?_) (fun e he => by cases he), rfl, rfl⟩
        rcases hb with hb | hb
        · exact hb.1
        · rw [hb]; exact Na
    · rintro s' ρ' ac' m' F' ⟨rfl, h1⟩
      exact ⟨rfl, ρ', m', F', h1⟩
  · obtain ⟨ρ, m₃, F₃, h1⟩ := h₃
    exact F₃.done m₃ T (F₃.ev h1)
end
end Mine

end

-- part W5
section
open PySem PySem.W PyProof.Rows
set_option Elab.async false
set_option maxRecDepth 100000
set_option linter.unusedVariables false
set_option pp.deepTerms false
set_option pp.maxSteps 1000
namespace Mine

def mx (a b : Int) : Int := if b > a then b else a
def mn (a b : Int) : Int := if b < a then b else a
def frontsAt (steps : List Int) : Nat → List Int
  | 0 => [0]
  | k + 1 => frontsAt steps k ++ [mx ((frontsAt steps k).getD k 0 - steps.getD k 0) 0]
theorem frontsAt_len (steps : List Int) : ∀ k, (frontsAt steps k).length = k + 1
  | 0 => rfl
  | k + 1 => by rw [frontsAt, List.length_append, frontsAt_len steps k]; rfl
def fallL (fr : List Int) : List Int := (List.range 5).flatMap fun j => (List.range (j + 1)).map fun i => fr.getD i 0 - fr.getD j 0
def fallD (fr : List Int) (d e : D) : D := match d, e with | .int j, .int i => .int (fr.getD i.toNat 0 - fr.getD j.toNat 0) | d, _ => d

section
variable {prog : Program} {w : World} {A : Around} {N : Addr → Prop} {mg mb : Str → Option Value} {p : Params}

theorem c_fall {s : Shared} {vs : List Value} {steps : List Int} {mm : Int} (GMm : GM mg mb) (G : GE (hd.heap_39 p) mg mb s.heap) (rm : Rm A 1) (hN : New N s.heap) (T : 0 < s.toks)
    (r : RepL N s.heap [dInts steps] vs) (hl : steps.length = 4) (h1 : mm ∈ fallL (frontsAt steps 4)) (h2 : ∀ a ∈ fallL (frontsAt steps 4), a ≤ mm) : Gives prog w A N (.int mm) (call (.ref 64) vs) s := by
  obtain ⟨v, rfl, _⟩ := r.one
  refine enterF (ns := ["steps"]) rm (G.k 64 _ rfl) rfl G.lim ⟨63, _, _, _, rfl, G.k 63 _ rfl, rfl, rfl⟩ rfl rfl hN T r rfl rfl (by decide) (fun m x hx => ?_) (by decide) rfl fun L N' ad s₁ E' F m rm' => ?_
  · simp only [List.mem_cons, List.not_mem_nil, or_false] at hx
    rcases hx with rfl; exact .inl rfl
  refine wpAny_execs_cons (F.newAcc (x := "fronts") (m.pos T) (.inr ⟨rfl, rfl, _, rfl⟩) (.cons .int .nil) one_le fun s₂ a m₂ Na F₂ => ?_)
  have m12 := m.trans m₂
  refine seqW (fun s' => ∃ ρ, Sm s s' ∧ F₂.at ρ [(("fronts" : Str), (frontsAt steps 4).map D.int)] s'.heap) ?_ fun s₃ h₃ => ?_
  · refine F₂.forD (fun s' => Sm s s') (fun _ _ x y => x.trans y) (fun _ x => x.pos T) m12 (.range rm'.hh ⟨rfl, rfl, rfl⟩ (G.ext F₂.ext).gl rfl GMm.range.1 GMm.range.2 .int (by omega) (by omega)) (.name (.inl rfl)) (fun _ _ => trivial)
      (fun k ρ ac => ac = [(("fronts" : Str), (frontsAt steps k).map D.int)] ∧ ρ "steps" = some (dInts steps)) ?_ ?_ ?_ ?_
    · exact ⟨rfl, rfl⟩
    · rintro k ρ' ac' ⟨rfl, _⟩ e he
      exact ⟨_, List.mem_singleton.mpr rfl, by rw [List.mem_singleton.mp he]⟩
    · rintro k d ρ' ac' Bk' N'' s' E'' hdk ⟨rfl, h1⟩ hN' hbk F' m'
      obtain ⟨hk, rfl⟩ := upto_get hdk
      have hk' : k < 4 := hk
      have hG : GE (hd.heap_39 p) mg mb s'.heap := G.ext fun b o e => F'.keep b o (hbk b o e)
      have hm : (("fronts" : Str), (frontsAt steps k).map D.int) ∈ (Accs.del [(("fronts" : Str), (frontsAt steps k).map D.int)] "k") := List.mem_singleton.mpr rfl
      have Ff := F'.freeze hm (by decide)
      refine wpAny_execs_cons (F'.append (d := .int (mx ((frontsAt steps k).getD k 0 - steps.getD k 0) 0)) (m'.pos T) hm (.callB ⟨rfl, rfl, rfl⟩ hG.gl rfl GMm.max.1 GMm.max.2
        (.cons (.intN (.subI (.itemL (Ff.ev (d := .list ((frontsAt steps k).map D.int)) rfl) (Ff.ev (d := .int k) rfl) (by omega) (by omega) (by rw [Int.toNat_natCast, getElem?_of_getD (by rw [frontsAt_len]; omega)]))
            (.itemL (Ff.ev (d := dInts steps) h1) (Ff.ev (d := .int k) rfl) (by omega) (by omega) (by rw [Int.toNat_natCast, getElem?_of_getD (by omega)])))) (.cons .int .nil))
          fun s'' vs X T' r' => .max2 rm'.hh r') (by rw [List.length_map, frontsAt_len, sizeLine_eq]; omega) (by decide) fun s₄ m₄ F₄ => ?_)
      refine wpAny_execs_nil ⟨.inl rfl, m'.trans m₄, _, _, F₄, ?_, h1⟩
      show Accs.put [(("fronts" : Str), _)] "fronts" _ = _
      unfold Accs.put
      rw [frontsAt, List.map_append]; rfl
    · rintro s' ρ' ac' m' F' ⟨rfl, h1⟩
      exact ⟨rfl, ρ', m', F'⟩
  · obtain ⟨ρ, m₃, F₃⟩ := h₃
    have Ff := F₃.freeze (x := "fronts") (List.mem_singleton.mpr rfl) (by decide)
    have hG : GE (hd.heap_39 p) mg mb s₃.heap := G.ext Ff.ext
    refine Ff.done m₃ T (.callB ⟨rfl, rfl, rfl⟩ hG.gl rfl GMm.max.1 GMm.max.2 (.cons (Ev.cast (.comp (cl := [("fronts", L + 1)]) (ρc := Vars.of [("fronts", .list ((frontsAt steps 4).map D.int))]) (ds := upto 5) ⟨rfl, fun c hc => hc, rfl, by decide, by decide, fun x d e => ?_⟩ Ff.new Ff.vars Ff.cells
      (.range rm'.hh ⟨rfl, rfl, rfl⟩ hG.gl rfl GMm.range.1 GMm.range.2 .int (by omega) (by omega))
      (.two (T2 := false) (fun d => match d with | .int j => upto (j + 1).toNat | _ => []) (fallD (frontsAt steps 4)) (fun C => .name (.inl rfl)) (fun _ _ => trivial) (fun _ => rfl) (fun C => .name (.inl rfl)) (fun _ _ _ _ => trivial) (fun _ => rfl) (fun d ρ ρ' _ h => h.put _ _) (fun d ρ' _ h => h.skip _ rfl) (fun d ρ ρ' _ h => h.put _ _) (fun d e ρ' _ _ h => h.skip _ rfl) ?_ ?_ ?_)) (d' := dInts (fallL (frontsAt steps 4))) ?_) .nil)
      fun s' vs X T' r' => ?_)
    · obtain ⟨rfl, rfl⟩ := of_one e
      exact ⟨rfl, rfl, rfl, rfl⟩
    · rw [sizeLine_eq]
      exact (by decide : 15 ≤ 16777216)
    · intro C Bk N ad ac s d hd' F X T
      obtain ⟨j, hj⟩ := List.getElem?_of_mem hd'
      obtain ⟨hj5, rfl⟩ := upto_get hj
      exact .range rm'.hh ⟨rfl, rfl, rfl⟩ (hG.ext X).gl rfl GMm.range.1 GMm.range.2 (.addI (F.ev (d := .int j) rfl) .int) (by omega) (by omega)
    · intro C Bk N ad ac s d e hd' he' F X T
      obtain ⟨j, hj⟩ := List.getElem?_of_mem hd'
      obtain ⟨hj5, rfl⟩ := upto_get hj
      obtain ⟨i, hi⟩ := List.getElem?_of_mem he'
      obtain ⟨hi5, rfl⟩ := upto_get hi
      have hi6 : i < j + 1 := by omega
      exact .subI (.itemL (F.ev (d := .list ((frontsAt steps 4).map D.int)) rfl) (F.ev (d := .int i) rfl) (by omega) (by omega) (by rw [Int.toNat_natCast, getElem?_of_getD (by rw [frontsAt_len]; omega)]))
        (.itemL (F.ev (d := .list ((frontsAt steps 4).map D.int)) rfl) (F.ev (d := .int j) rfl) (by omega) (by omega) (by rw [Int.toNat_natCast, getElem?_of_getD (by rw [frontsAt_len]; omega)]))
    · rfl
    · obtain ⟨v, rfl, r1⟩ := r'.one
      exact .maxL rm'.hh (.ofL r1) h1 h2

def endOf (pt : Int × Int) : Str := Txt.mul "un" (pt.1 - pt.2) ++ Txt.mul "known" (pt.2 - pt.1)
def keepsEnd (mark : Str) (pt : Int × Int) : Bool := decide (mark ≠ "") || (decide (pt.1 ≠ 1) || (decide (pt.2 ≠ 1) || false))
def endsF (mark : Str) (sums : List (Int × Int)) : List Str := (sums.filter (keepsEnd mark)).map endOf
def roundsF (sums : List (Int × Int)) : Int := sums.foldl (fun r pt => mx r (mn pt.1 pt.2)) 1
def dueName (ends : List Str) : Str :=
  if decide (Txt.join "-" (ends.filter fun e => decide (e ≠ "")) ≠ "") && (decide (ends.headD "" = "") && true) then "-" ++ Txt.join "-" (ends.filter fun e => decide (e ≠ "")) else Txt.join "-" (ends.filter fun e => decide (e ≠ ""))
def dSum (pt : Int × Int) : D := .tup [.int pt.1, .int pt.2]
def dSums (l : List (Int × Int)) : D := .list (l.map dSum)
def dRes (name : Str) (rounds : Int) : D := .tup [.str name, .int rounds]

theorem len_list (x : Str) : x.length = x.cps.toList.length := by show x.cps.size = _; simp
theorem len_append (x y : Str) : (x ++ y).length = x.length + y.length := by rw [len_list, append_list, List.length_append, ← len_list, ← len_list]
theorem mul_len (x : Str) (n : Int) : (Txt.mul x n).length = n.toNat * x.length := by
  rw [len_list, mul_list, len_list]
  generalize n.toNat = m
  induction m with
  | zero => simp
  | succ m ih => rw [List.replicate_succ, List.flatten_cons, List.length_append, ih, Nat.succ_mul]; omega
theorem endOf_len {pt : Int × Int} (h : (0 ≤ pt.1 ∧ pt.1 ≤ 12) ∧ 0 ≤ pt.2 ∧ pt.2 ≤ 12) : (endOf pt).length ≤ 100 := by
  unfold endOf
  rw [len_append, mul_len, mul_len, show ("un" : Str).length = 2 from by decide, show ("known" : Str).length = 5 from by decide]
  omega

theorem two_le : 2 ≤ sizeLine := by decide
theorem sum_le (l : List Str) (c : Nat) (h : ∀ e ∈ l, e.length ≤ c) : (l.map (·.length)).sum ≤ l.length * c := by
  induction l with
  | nil => simp
  | cons x l ih =>
    have h1 := h x (List.mem_cons_self ..)
    have h2 := ih fun e he => h e (List.mem_cons_of_mem _ he)
    rw [List.map_cons, List.sum_cons, List.length_cons, Nat.succ_mul]; omega

theorem c_due {s : Shared} {vs : List Value} {sums : List (Int × Int)} {mark : Str} (GMm : GM mg mb) (G : GE (hd.heap_39 p) mg mb s.heap) (rm : Rm A 1) (hN : New N s.heap) (T : 0 < s.toks)
    (r : RepL N s.heap [dSums sums, .str mark] vs) (hl : sums.length ≤ 4) (hb : ∀ pt ∈ sums, (0 ≤ pt.1 ∧ pt.1 ≤ 12) ∧ 0 ≤ pt.2 ∧ pt.2 ≤ 12) : Gives prog w A N (dRes (dueName (endsF mark sums)) (roundsF sums)) (call (.ref 74) vs) s := by
  obtain ⟨v, v', rfl, _, _⟩ := r.two
  refine enterF (ns := ["sums", "mark"]) rm (G.k 74 _ rfl) rfl G.lim ⟨73, _, _, _, rfl, G.k 73 _ rfl, rfl, rfl⟩ rfl rfl hN T r rfl rfl (by decide) (fun m x hx => ?_) (by decide) rfl fun L N' ad s₁ E' F m rm' => ?_
  · simp only [List.mem_cons, List.not_mem_nil, or_false] at hx
    rcases hx with rfl | rfl <;> exact .inl rfl
  refine wpAny_execs_cons (F.newAcc (x := "ends") (m.pos T) (.inl rfl) .nil (by decide) fun s₂ a m₂ Na F₂ => ?_)
  refine wpAny_execs_cons (F₂.assign ((m.trans m₂).pos T) (.inl rfl) .int fun s₃ m₃ F₃ => ?_)
  have m13 := (m.trans m₂).trans m₃
  have hpre : ∀ j, ((sums.take j).filter (keepsEnd mark)).length ≤ 4 := fun j => Nat.le_trans (List.length_filter_le ..) (by rw [List.length_take]; omega)
  refine seqW (fun s' => ∃ ρ, Sm s s' ∧ F₃.at ρ [(("ends" : Str), (endsF mark sums).map D.str)] s'.heap ∧ ρ "rounds" = some (.int (roundsF sums))) ?_ fun s₄ h₄ => ?_
  · refine F₃.forD (fun s' => Sm s s') (fun _ _ x y => x.trans y) (fun _ x => x.pos T) m13 (.list rm'.hh (F₃.ev (d := dSums sums) rfl)) (.tup rm'.hh (.inl rfl) (.inl rfl) (by decide)) (fun d hd => ?_)
      (fun k ρ ac => ac = [(("ends" : Str), (endsF mark (sums.take k)).map D.str)] ∧ ρ "mark" = some (.str mark) ∧ ρ "rounds" = some (.int (roundsF (sums.take k)))) ?_ ?_ ?_ ?_
    · obtain ⟨pt, _, rfl⟩ := List.mem_map.mp hd
      exact ⟨_, _, rfl⟩
    · exact ⟨rfl, rfl, rfl⟩
    · rintro k ρ' ac' ⟨rfl, _⟩ e he
      exact ⟨_, List.mem_singleton.mpr rfl, by rw [List.mem_singleton.mp he]⟩
    · rintro k d ρ' ac' Bk' N'' s' E'' hdk ⟨rfl, h1, h2⟩ hN' hbk F' m'
      have hdk' : ∃ pt, sums[k]? = some pt ∧ d = dSum pt := by
        rw [List.getElem?_map] at hdk
        cases e : sums[k]? with
        | none => rw [e] at hdk; cases hdk
        | some w => rw [e] at hdk; cases hdk; exact ⟨w, rfl, rfl⟩
      obtain ⟨pt, hpt, rfl⟩ := hdk'
      have hptb := hb pt (List.mem_of_getElem? hpt)
      have htk : sums.take (k + 1) = sums.take k ++ [pt] := by rw [List.take_add_one, hpt]; rfl
      have hG : GE (hd.heap_39 p) mg mb s'.heap := G.ext fun b o e => F'.keep b o (hbk b o e)
      have hE : ∀ s'' : Shared, (keepsEnd mark pt = true → endsF mark (sums.take (k + 1)) = endsF mark (sums.take k) ++ [endOf pt]) ∧ (keepsEnd mark pt = false → endsF mark (sums.take (k + 1)) = endsF mark (sums.take k)) := fun _ => by
        unfold endsF
        rw [htk, List.filter_append]
        constructor <;> intro h <;> simp [h]
      refine seqW (fun s'' => ∃ ρ₂, Sm s s'' ∧ F'.at ρ₂ [(("ends" : Str), (endsF mark (sums.take (k + 1))).map D.str)] s''.heap ∧ ρ₂ "mark" = some (.str mark) ∧ ρ₂ "rounds" = some (.int (roundsF (sums.take k))) ∧ ρ₂ "puts" = some (.int pt.1) ∧ ρ₂ "takes" = some (.int pt.2)) ?_ fun s₅ h₅ => ?_
      · refine F'.ite (m'.pos T) (b := keepsEnd mark pt) (.of_all (.or_cons (.cmp (F'.ev (d := .str mark) h1) .str .neS) fun _ => .or_cons (.cmp (F'.ev (d := .int pt.1) rfl) .int .neI) fun _ => .or_cons (.cmp (F'.ev (d := .int pt.2) rfl) .int .neI) fun _ => .or_nil))
          (fun hb2 s₅ m₅ F₅ => ?_) fun hb2 s₅ m₅ F₅ => ?_
        · refine wpAny_execs_cons (F₅.append (d := .str (endOf pt)) ((m'.trans m₅).pos T) (List.mem_singleton.mpr rfl) (.addS (.mulS .str (.subI (F₅.ev (d := .int pt.1) rfl) (F₅.ev (d := .int pt.2) rfl)) (mul_ok (by omega) (by omega) (by decide)))
              (.mulS .str (.subI (F₅.ev (d := .int pt.2) rfl) (F₅.ev (d := .int pt.1) rfl)) (mul_ok (by omega) (by omega) (by decide))) ?_) (by have := hpre k; simp [endsF, sizeLine_eq]; omega) (by decide) fun s₆ m₆ F₆ => ?_)
          · rw [← len_append]
            exact Nat.le_trans (endOf_len hptb) (by decide)
          · refine wpAny_execs_nil ⟨rfl, upT "puts" "takes" (dSum pt) ρ', (m'.trans m₅).trans m₆, ?_, h1, h2, rfl, rfl⟩
            have e : Accs.put [(("ends" : Str), (endsF mark (sums.take k)).map D.str)] "ends" ((endsF mark (sums.take k)).map D.str ++ [D.str (endOf pt)]) = [(("ends" : Str), (endsF mark (sums.take (k + 1))).map D.str)] := by
              unfold Accs.put
              rw [(hE s).1 hb2, List.map_append]; rfl
            rw [← e]; exact F₆
        · refine wpAny_execs_nil ⟨rfl, upT "puts" "takes" (dSum pt) ρ', m'.trans m₅, ?_, h1, h2, rfl, rfl⟩
          rw [(hE s).2 hb2]; exact F₅
      · obtain ⟨ρ₂, m₅, F₅, h1, h2, h3, h4⟩ := h₅
        have hG₅ : GE (hd.heap_39 p) mg mb s₅.heap := G.ext fun b o e => F₅.keep b o (hbk b o e)
        refine wpAny_execs_cons (F₅.assign (m₅.pos T) (.inl rfl) (d := .int (mx (roundsF (sums.take k)) (mn pt.1 pt.2))) (.callB ⟨rfl, rfl, rfl⟩ hG₅.gl rfl GMm.max.1 GMm.max.2 (.cons (F₅.ev h2) (.cons (.callB (d := .int (mn pt.1 pt.2)) ⟨rfl, rfl, rfl⟩ hG₅.gl rfl GMm.min.1 GMm.min.2 (.cons (F₅.ev h3) (.cons (F₅.ev h4) .nil))
          fun s'' vs X T' r' => .min2 rm'.hh r') .nil)) fun s'' vs X T' r' => .max2 rm'.hh r') fun s₆ m₆ F₆ => ?_)
        refine wpAny_execs_nil ⟨.inl rfl, m₅.trans m₆, _, _, F₆, rfl, h1, ?_⟩
        unfold roundsF
        rw [htk, List.foldl_append]; rfl
    · rintro s' ρ' ac' m' F' ⟨rfl, h1, h2⟩
      rw [List.length_map, List.take_length] at F' h2
      exact ⟨rfl, ρ', m', F', h2⟩
  · obtain ⟨ρ, m₄, F₄, h1⟩ := h₄
    have Ff := F₄.freeze (x := "ends") (List.mem_singleton.mpr rfl) (by decide)
    have hG : GE (hd.heap_39 p) mg mb s₄.heap := G.ext Ff.ext
    have hel : (endsF mark sums).length ≤ 4 := by have := hpre 4; unfold endsF; rw [List.length_map]; rw [List.take_of_length_le hl] at this; exact this
    have heb : ∀ e ∈ endsF mark sums, e.length ≤ 100 := fun e he => by
      obtain ⟨pt, hpt, rfl⟩ := List.mem_map.mp he
      exact endOf_len (hb pt (List.mem_filter.mp hpt).1)
    have hfs : (((endsF mark sums).filter fun e : Str => decide (e ≠ "")).map (·.length)).sum ≤ 400 ∧ ((endsF mark sums).filter fun e : Str => decide (e ≠ "")).length ≤ 4 := by
      have h4 : ((endsF mark sums).filter fun e : Str => decide (e ≠ "")).length ≤ 4 := Nat.le_trans (List.length_filter_le ..) hel
      have := sum_le ((endsF mark sums).filter fun e : Str => decide (e ≠ "")) 100 fun e he => heb e (List.mem_filter.mp he).1
      exact ⟨by omega, h4⟩
    have hjl : (Txt.join ("-" : Str) ((endsF mark sums).filter fun e : Str => decide (e ≠ ""))).length ≤ 410 := by
      have h5 := StrLaws.join_length_le ("-" : Str) ((endsF mark sums).filter fun e : Str => decide (e ≠ ""))
      rw [← StrLaws.glued_eq_join, show ("-" : Str).length = 1 from by decide] at h5
      exact Nat.le_trans h5 (by omega)
    refine wpAny_execs_cons (Ff.assign (m₄.pos T) (.inl rfl) (d := .str (Txt.join "-" ((endsF mark sums).filter fun e => decide (e ≠ "")))) (.join .str (Ev.cast (.comp (cl := []) (ρc := fun _ => none) (ds := (endsF mark sums).map D.str) ⟨rfl, fun c hc => (by cases hc), rfl, by decide, by decide, fun x d e => (by cases e)⟩ Ff.new Ff.vars Ff.cells
      (.list rm'.hh (Ff.ev (d := .list ((endsF mark sums).map D.str)) rfl)) (.one (fun d => match d with | .str e => decide (e ≠ "") | _ => false) (fun d => d) (fun C => .name (.inl rfl)) (fun _ _ => trivial) (fun _ => rfl) (fun d ρ ρ' _ h => h.put _ _) (fun d ρ' _ h => h.skip _ rfl) (by rw [List.length_map, sizeLine_eq]; omega) ?_)) ?_) ?_) fun s₅ m₅ F₅ => ?_)
    · intro C Bk N ad ac s d hd' F X T
      obtain ⟨e, _, rfl⟩ := List.mem_map.mp hd'
      exact ⟨.one (.cmp (F.ev (d := .str e) rfl) .str .neS), fun _ => F.ev (d := .str e) rfl⟩
    · show D.list _ = D.list _
      congr 1
      rw [List.map_id', List.filter_map]; rfl
    · exact joinOk_of (by rw [show ("-" : Str).length = 1 from by decide]; omega)
    · generalize hgn : Txt.join "-" ((endsF mark sums).filter fun e => decide (e ≠ "")) = name at F₅ hjl
      have m15 := m₄.trans m₅
      have hG₅ : GE (hd.heap_39 p) mg mb s₅.heap := G.ext F₅.ext
      refine seqW (fun s' => ∃ ρ, Sm s s' ∧ F₅.at ρ [] s'.heap ∧ ρ "name" = some (.str (dueName (endsF mark sums))) ∧ ρ "rounds" = some (.int (roundsF sums))) ?_ fun s₆ h₆ => ?_
      · refine F₅.ite (m15.pos T) (b := decide (name ≠ "") && (decide ((endsF mark sums).headD "" = "") && true)) (.of_all (.and_cons (.cmp (F₅.ev (d := .str name) rfl) .str .neS) fun hne => .and_cons (.cmp (.itemL (F₅.ev (d := .list ((endsF mark sums).map D.str)) rfl) .int (by omega) (by omega) (d := .str ((endsF mark sums).headD "")) ?_) .str .eqS) fun _ => .and_nil))
          (fun hb2 s₆ m₆ F₆ => ?_) fun hb2 s₆ m₆ F₆ => ?_
        · cases hends : endsF mark sums with
          | nil => rw [hends] at hgn; exact absurd (hgn.symm.trans (by decide)) (of_decide_eq_true hne)
          | cons e r => rfl
        · refine wpAny_execs_cons (F₆.assign ((m15.trans m₆).pos T) (.inl rfl) (.addS .str (F₆.ev (d := .str name) rfl) (by rw [show ("-" : Str).length = 1 from by decide, sizeLine_eq]; omega)) fun s₇ m₇ F₇ => ?_)
          refine wpAny_execs_nil ⟨rfl, _, (m15.trans m₆).trans m₇, F₇, ?_, h1⟩
          show some (D.str _) = some (D.str _)
          rw [dueName, hgn, if_pos hb2]
        · refine wpAny_execs_nil ⟨rfl, _, m15.trans m₆, F₆, ?_, h1⟩
          show some (D.str _) = some (D.str _)
          rw [dueName, hgn, if_neg (by rw [hb2]; decide)]
      · obtain ⟨ρ₆, m₆, F₆, h2, h3⟩ := h₆
        exact F₆.done m₆ T (.tup F₆.new (.cons (F₆.ev h2) (.cons (F₆.ev h3) .nil)) two_le)
end
end Mine

end

-- part V0
section
open PySem PySem.W PyProof.Rows
set_option Elab.async false
set_option linter.unusedVariables false
set_option maxRecDepth 100000
namespace Mine

theorem slot_flt_next : Slot "filter" "__next__" "filter.__next__" :=
  .of (owner := "filter") (n := "__next__") (by rw [typeLookup_type, builtinLookup_eq_fast]; kernel_rfl) (by decide +kernel) (by decide +kernel) (by decide +kernel)
    (by first | exact .inl (by decide +kernel) | exact .inr (by decide +kernel)) (by rw [isSubtype_type]; kernel_rfl)
theorem slot_flt_iter : Slot "filter" "__iter__" "filter.__iter__" :=
  .of (owner := "filter") (n := "__iter__") (by rw [typeLookup_type, builtinLookup_eq_fast]; kernel_rfl) (by decide +kernel) (by decide +kernel) (by decide +kernel)
    (by first | exact .inl (by decide +kernel) | exact .inr (by decide +kernel)) (by rw [isSubtype_type]; kernel_rfl)
theorem slot_flt_init : Slot "filter" "__init__" "object.__init__" :=
  .of (owner := "object") (n := "__init__") (by rw [typeLookup_type, builtinLookup_eq_fast]; kernel_rfl) (by decide +kernel) (by decide +kernel) (by decide +kernel)
    (by first | exact .inl (by decide +kernel) | exact .inr (by decide +kernel)) (by rw [isSubtype_type]; kernel_rfl)
theorem entry_flt_next : entryFor table "filter.__next__" = some Builtin.«filter.__next__» := entryFor_of_tree (by kernel_rfl)
theorem entry_flt_new : entryFor table "filter.__new__" = some Builtin.«filter.__new__» := entryFor_of_tree (by kernel_rfl)
theorem entry_flt_iter : entryFor table "filter.__iter__" = some Builtin.«dict_keyiterator.__iter__» :=
  entryFor_alias (id' := "dict_keyiterator.__iter__") (by kernel_rfl) (by first | rfl | decide +kernel | (unfold String.splitOn; simp +decide [String.splitOnAux])) (by decide +kernel) (by kernel_rfl)
theorem owner_flt : Manifest.owners.lookup (String.ofList ['r', 'e', 't', 'l', 'i', 'f'].reverse) = some Manifest.sig_filter := by kernel_rfl
theorem args_flt_next (a : Value) : argsOk "filter.__next__" ⟨[a], []⟩ := by
  unfold argsOk; rw [signature?_of (id := "filter.__next__") (n := ['_', '_', 't', 'x', 'e', 'n', '_', '_']) (o := ['r', 'e', 't', 'l', 'i', 'f']) (by kernel_rfl) owner_flt]; kernel_rfl
theorem args_flt_iter (a : Value) : argsOk "filter.__iter__" ⟨[a], []⟩ := by
  unfold argsOk; rw [signature?_of (id := "filter.__iter__") (n := ['_', '_', 'r', 'e', 't', 'i', '_', '_']) (o := ['r', 'e', 't', 'l', 'i', 'f']) (by kernel_rfl) owner_flt]; kernel_rfl
theorem mro_flt : mroOf (.type "filter") = pure [.type "filter", .type "object"] := by rw [mroOf_type]; kernel_rfl
theorem lookup_flt_new : typeLookup (.type "filter") "__new__" = pure (some (.builtin "filter.__new__")) := by rw [typeLookup_type, builtinLookup_eq_fast]; kernel_rfl
theorem called_flt : TypeCalled "filter" "filter.__new__" "object.__init__" :=
  ⟨by decide +kernel, by decide +kernel, ⟨_, _, mro_flt⟩, madeBy_type mro_flt lookup_flt_new (by decide +kernel), by decide +kernel, by rw [isSubtype_type]; kernel_rfl, slot_flt_init⟩
theorem typeCall_flt (a b : Value) : checkTypeCall "filter" ⟨[a, b], []⟩ = pure () := by kernel_rfl
theorem newCall_flt (a b : Value) : checkBuiltinCall "filter.__new__" ⟨[.type "filter", a, b], []⟩ = pure () := by kernel_rfl
theorem sub_flt : isSubtype (.type "filter") (.type "filter") = pure true := by rw [isSubtype_type]; kernel_rfl

end Mine

end

-- part V1
section
open PySem PySem.W PyProof.Rows
set_option Elab.async false
set_option linter.unusedVariables false
set_option maxRecDepth 100000
namespace Mine
abbrev IsFlt (h : Heap) (z I : Addr) : Prop := h.get? z = some { cls := .type "filter", dict := none, data := .fields #[.builtin "len", .ref I], slots := #[] }
def keepS : Value → Bool
  | .str x _ => decide (x.length ≠ 0)
  | _ => false

section
variable {prog : Program} {w : World} {A : Around} {E : Value → Shared → Prop} {s : Shared}

theorem nx_tup_item {it t : Addr} {i : Nat} {items} {x : Value} {Q : Option Value → Shared → Prop} (hit : s.heap.IsTupleIter it t i) (ht : s.heap.IsTuple t items) (hx : items[i]? = some x)
    (hQ : ∀ h', h'.IsTupleIter it t (i + 1) → Heap.SameBut it s.heap h' → Q (some x) { s with heap := h' }) :
    wpAny (model prog w) A (callSpecial? (.ref it) "__next__") Q E s := by
  obtain ⟨o, ho, hc, hd⟩ := id hit
  obtain ⟨ol, hol, _, nl, hdl⟩ := ht
  refine wpAny_callSpecial?_slot (name := Str.ofString "__next__") hit.typeIs F.slot_tuple_iterator_next (wpAny_call_entry F.slot_tuple_iterator_next hit.typeIs F.entry_tuple_iterator_next ?_ (F.args_tuple_iterator_next_1 _))
  show wpAny _ _ (field (.ref it) 0 >>= _) _ _ s
  refine wpAny_bind (wpAny_field ho hd (x := .ref t) rfl ?_)
  show wpAny _ _ (if (Value.ref t == Value.none) = true then _ else _) _ _ s
  rw [if_neg (show ¬ ((Value.ref t == Value.none) = true) from Bool.false_ne_true)]
  show wpAny _ _ (field (.ref it) 1 >>= _) _ _ s
  refine wpAny_bind (wpAny_field ho hd (x := .int i 0) rfl ?_)
  show wpAny _ _ (seqItems? (.ref t) >>= _) _ _ s
  refine wpAny_bind (wpAny_seqItems hol hdl ?_)
  simp only [Int.toNat_natCast, hx]
  refine wpAny_bind (wpAny_setField ho hd (by simp) (wpAny_pure ⟨x, rfl, hQ _ ?_ (Heap.SameBut.update ..)⟩))
  exact ⟨_, Heap.get?_update_self _ ho (Obj.isFreed_of_fields (Obj.data_mapFields hd _)), (Obj.cls_mapFields ..).trans hc, by rw [Obj.data_mapFields hd]; simp [rawInt]⟩

theorem nx_tup_end {it t : Addr} {i : Nat} {items} {Q : Option Value → Shared → Prop} (hh : A.handled = none) (hit : s.heap.IsTupleIter it t i) (ht : s.heap.IsTuple t items) (hx : items[i]? = none)
    (hE : ∀ h' e, Heap.ExtBut it s.heap h' → (∃ o, h'.get? e = some o ∧ o.cls = .type "StopIteration") → E (.ref e) { s with heap := h' }) :
    wpAny (model prog w) A (callSpecial? (.ref it) "__next__") Q E s := by
  obtain ⟨o, ho, hc, hd⟩ := id hit
  obtain ⟨ol, hol, _, nl, hdl⟩ := ht
  refine wpAny_callSpecial?_slot (name := Str.ofString "__next__") hit.typeIs F.slot_tuple_iterator_next (wpAny_call_entry F.slot_tuple_iterator_next hit.typeIs F.entry_tuple_iterator_next ?_ (F.args_tuple_iterator_next_1 _))
  show wpAny _ _ (field (.ref it) 0 >>= _) _ _ s
  refine wpAny_bind (wpAny_field ho hd (x := .ref t) rfl ?_)
  show wpAny _ _ (if (Value.ref t == Value.none) = true then _ else _) _ _ s
  rw [if_neg (show ¬ ((Value.ref t == Value.none) = true) from Bool.false_ne_true)]
  show wpAny _ _ (field (.ref it) 1 >>= _) _ _ s
  refine wpAny_bind (wpAny_field ho hd (x := .int i 0) rfl ?_)
  show wpAny _ _ (seqItems? (.ref t) >>= _) _ _ s
  refine wpAny_bind (wpAny_seqItems hol hdl ?_)
  simp only [Int.toNat_natCast, hx]
  refine wpAny_bind (wpAny_rule (wpAny_bind (wpAny_setField ho hd (by simp) ?_)))
  show wpAny _ _ (newExc (.type "StopIteration") [] >>= _) _ _ _
  refine wpAny_bind ?_
  simp only [newExc, newTuple]
  refine wpAny_bind (wpAny_newObj_type ?_ (by size_fits))
  refine wpAny_bind (m := firstArgMember _ _) (wpAny_of_eq (a := Value.none) (by first | rfl | (simp only [firstArgMember]; rfl)) ?_)
  refine wpAny_newObj_type ?_ (by size_fits)
  simp only [raiseNew]
  refine wpAny_bind (wpAny_handled ?_)
  first | rw [show A.in1.handled = none from hh] | rw [hh]
  refine wpAny_bind (wpAny_pure (wpAny_throw ?_))
  exact hE _ _ (((Heap.SameBut.update ..).extBut.push _).push _) ⟨_, Heap.get?_push_size _ rfl, rfl⟩

theorem flt_loop {z I t : Addr} {items : Array Value} {R : Result → Shared → Prop} (hh : A.handled = none) (hzI : z ≠ I) (htI : t ≠ I) (hstr : ∀ v ∈ items.toList, ∃ x u, v = .str x u ∧ x.length ≤ sizeLine) :
    ∀ (l : List Value) (j : Nat) (s : Shared), items.toList.drop j = l → IsFlt s.heap z I → s.heap.IsTupleIter I t j → s.heap.IsTuple t items →
      (∀ h' tk e, l.filter keepS = [] → Heap.ExtBut I s.heap h' → (∃ o, h'.get? e = some o ∧ o.cls = .type "StopIteration") → R (.error (.ref e)) { s with heap := h', toks := tk }) →
      (∀ v rest h' tk j', l.filter keepS = v :: rest → (items.toList.drop j').filter keepS = rest → h'.IsTupleIter I t j' → Heap.ExtBut I s.heap h' → R (.ok (.ret v)) { s with heap := h', toks := tk }) →
      codeAny (model prog w) A (.builtin "filter.__next__" ⟨[.ref z], []⟩) R s := by
  intro l
  induction l with
  | nil =>
    intro j s hl hz hit ht hend _
    refine codeAny_builtin entry_flt_next ?_
    rw [Around.under_plainId slot_flt_next.plain]
    show wpAny _ _ (field (.ref z) 0 >>= _) _ _ s
    refine wpAny_bind (wpAny_field hz rfl (x := .builtin "len") rfl ?_)
    refine wpAny_bind (wpAny_field hz rfl (x := .ref I) rfl ?_)
    refine wpAny_bind (nx_tup_end (A := A.in1) hh hit ht ?_ fun h' e he hst => hend h' s.toks e rfl he hst)
    have : items.toList.length ≤ j := List.drop_eq_nil_iff.mp hl
    simpa using this
  | cons x l ih =>
    intro j s hl hz hit ht hend hitem
    have hj : items[j]? = some x := by
      have : (items.toList.drop j)[0]? = some x := by rw [hl]; rfl
      simpa using this
    have hl' : items.toList.drop (j + 1) = l := by
      have e : items.toList.drop (j + 1) = (items.toList.drop j).drop 1 := by rw [List.drop_drop]
      rw [e, hl]; rfl
    have hmem : x ∈ items.toList := List.mem_of_mem_drop (i := j) (by rw [hl]; exact List.mem_cons_self ..)
    obtain ⟨y, u, rfl, hy⟩ := hstr _ hmem
    refine codeAny_builtin entry_flt_next ?_
    rw [Around.under_plainId slot_flt_next.plain]
    show wpAny _ _ (field (.ref z) 0 >>= _) _ _ s
    refine wpAny_bind (wpAny_field hz rfl (x := .builtin "len") rfl ?_)
    refine wpAny_bind (wpAny_field hz rfl (x := .ref I) rfl ?_)
    refine wpAny_bind (nx_tup_item hit ht hj fun h₁ hit₁ hs₁ => ?_)
    have hz₁ : IsFlt h₁ z I := hs₁.extBut _ _ hzI hz
    have ht₁ := ht.extBut hs₁.extBut htI
    have X₁ : Heap.ExtBut I s.heap h₁ := hs₁.extBut
    refine wpAny_bind (wpAny_holding ?_)
    show wpAny _ _ (if (Value.builtin "len" == Value.none || Value.builtin "len" == Value.type "bool") = true then _ else _) _ _ _
    rw [if_neg (by decide)]
    refine wpAny_bind (P.len_str (fit_len hy) (wpAny_holding (P.truthy_int ?_)))
    by_cases hy0 : y.length = 0
    · have hk : keepS (.str y u) = false := by simp [keepS, hy0]
      rw [if_neg (by simp [hy0])]
      refine wpAny_pure ⟨plainId_quiet slot_flt_next.plain _, ih (j + 1) _ hl' hz₁ hit₁ ht₁ (fun h' tk e h1 he hst => ?_) fun v rest h' tk j' h1 h2 h3 he => ?_⟩
      · exact hend h' tk e (by rw [List.filter_cons, hk]; exact h1) (fun b o hb q => he b o hb (X₁ b o hb q)) hst
      · exact hitem v rest h' tk j' (by rw [List.filter_cons, hk]; exact h1) h2 h3 (fun b o hb q => he b o hb (X₁ b o hb q))
    · have hk : keepS (.str y u) = true := by simp [keepS, hy0]
      rw [if_pos (by simp [hy0])]
      exact wpAny_pure (hitem (.str y u) (l.filter keepS) h₁ _ (j + 1) (by rw [List.filter_cons, hk]; rfl) (by rw [hl']) hit₁ X₁)

theorem flt_walks {z I t : Addr} {items : Array Value} (hh : A.handled = none) (hzI : z ≠ I) (htI : t ≠ I) (hstr : ∀ v ∈ items.toList, ∃ x u, v = .str x u ∧ x.length ≤ sizeLine) :
    Walks prog w A z [z, I, t] [I] (items.toList.filter keepS).length (fun i v => (items.toList.filter keepS)[i]? = some v)
      (fun i h => IsFlt h z I ∧ ∃ j, h.IsTupleIter I t j ∧ h.IsTuple t items ∧ (items.toList.drop j).filter keepS = (items.toList.filter keepS).drop i) where
  sub := fun b hb => by simp at hb; simp [hb]
  frame := fun i h h' st hk => ⟨hk z (by simp) _ st.1, let ⟨j, a, b, c⟩ := st.2; ⟨j, a.at fun o e => hk I (by simp) o e, b.at fun o e => hk t (by simp) o e, c⟩⟩
  item := fun i s Q E hi st hQ => by
    obtain ⟨hz, j, hit, ht, hj⟩ := st
    have hT : s.TypeIs (.ref z) "filter" := ⟨_, hz, rfl⟩
    unfold pyNext
    refine wpAny_bind (wpAny_attempt (wpAny_callSpecial?_slot (name := Str.ofString "__next__") hT slot_flt_next (wpAny_call (codeAny_call_builtin_code (plainId_quiet slot_flt_next.plain _) (slot_flt_next.check _ _ _ _ _ _ _ _ hT (args_flt_next _) (flt_loop hh hzI htI hstr _ j s rfl hz hit ht (fun h' tk e h1 he hst => ?_) fun v rest h' tk j' h1 h2 h3 he => ?_))))))
    · rw [hj] at h1
      have := List.drop_eq_nil_iff.mp h1
      omega
    · rw [hj, List.drop_eq_getElem_cons hi] at h1
      injection h1 with h1 h4
      refine wpAny_pure (hQ v h' tk (by rw [List.getElem?_eq_getElem hi, h1]) ⟨he _ _ hzI hz, j', h3, ht.extBut he htI, by rw [h2, ← h4]⟩ fun b o hb e => he b o (fun q => hb (by simp [q])) e)
  done := fun s Q E st hQ => by
    obtain ⟨hz, j, hit, ht, hj⟩ := st
    have hT : s.TypeIs (.ref z) "filter" := ⟨_, hz, rfl⟩
    unfold pyNext
    refine wpAny_bind (wpAny_attempt (wpAny_callSpecial?_slot (name := Str.ofString "__next__") hT slot_flt_next (wpAny_call (codeAny_call_builtin_code (plainId_quiet slot_flt_next.plain _) (slot_flt_next.check _ _ _ _ _ _ _ _ hT (args_flt_next _) (flt_loop hh hzI htI hstr _ j s rfl hz hit ht (fun h' tk e h1 he hst => ?_) fun v rest h' tk j' h1 h2 h3 he => ?_))))))
    · obtain ⟨o, ho, hc⟩ := hst
      refine wpAny_bind (wpAny_isInstance (T := "StopIteration") (b := true) ⟨o, ho, hc⟩ isSubtype_stop ?_)
      exact wpAny_pure (hQ h' tk fun b o hb e => he b o (fun q => hb (by simp [q])) e)
    · rw [hj, List.drop_eq_nil_of_le (Nat.le_refl _)] at h1
      cases h1
  self := fun i s Q E st hQ => by
    have hT : s.TypeIs (.ref z) "filter" := ⟨_, st.1, rfl⟩
    refine wpAny_pyIter_slot hT slot_flt_iter (wpAny_call_entry slot_flt_iter hT entry_flt_iter ?_ (args_flt_iter _))
    show wpAny _ _ (ret (.ref z)) _ _ s
    exact wpAny_pure ⟨_, rfl, "filter", _, hT, slot_flt_next.lookup, hQ⟩

theorem call_flt {t : Addr} {items : Array Value} {Q : Value → Shared → Prop} (ht : s.heap.IsTuple t items)
    (h : Q (.ref (s.heap.objs.size + 1)) { s with heap := (s.heap.push { cls := .type "tuple_iterator", data := .fields #[.ref t, .int 0 0] }).push { cls := .type "filter", data := .fields #[.builtin "len", .ref s.heap.objs.size] } }) :
    wpAny (model prog w) A (call (.type "filter") [.builtin "len", .ref t]) Q E s := by
  have g : Meets (Builtin.«filter.__new__» ⟨[.type "filter", .builtin "len", .ref t], []⟩) (fun _ R s => s.heap.IsTuple t items ∧
      R (.ok (.ret (.ref (s.heap.push { cls := .type "tuple_iterator", data := .fields #[.ref t, .int 0 0] }).objs.size))) { s with heap := (s.heap.push { cls := .type "tuple_iterator", data := .fields #[.ref t, .int 0 0] }).push { cls := .type "filter", data := .fields #[.builtin "len", .ref s.heap.objs.size] } }) :=
    .of_wp fun prog w A R s h => by
      obtain ⟨hp, g, d, tk, os⟩ := s; obtain ⟨hl1, h⟩ := h
      have hsub := sub_flt
      have hL1 : Heap.IsTuple (Shared.heap ⟨hp, g, d, tk, os⟩) t items := hl1
      wp_walk using wpAny_pyIter_tuple hL1
      exact ⟨_, rfl, h⟩
  refine callType_new called_flt (by decide) (typeCall_flt _ _) (newCall_flt _ _) (fun obj => F.args_object_init_3 obj _ _) entry_flt_new g ⟨ht, ?_⟩
  have z1 : (s.heap.push { cls := .type "tuple_iterator", data := .fields #[.ref t, .int 0 0] }).objs.size = s.heap.objs.size + 1 := Heap.size_push ..
  have hg := Heap.get?_push_size (s.heap.push { cls := .type "tuple_iterator", data := .fields #[.ref t, .int 0 0] }) (o := { cls := .type "filter", data := .fields #[.builtin "len", .ref s.heap.objs.size] }) rfl
  rw [z1] at hg ⊢
  exact ⟨⟨_, hg, rfl⟩, h⟩
end
end Mine

end

-- part V2
section
open PySem PySem.W PyProof.Rows
set_option Elab.async false
set_option linter.unusedVariables false
set_option maxRecDepth 100000
set_option pp.deepTerms false
set_option pp.maxSteps 1500
namespace Mine

/-- the table of the code objects that a def's own code keeps -/
structure Tb (c P : Addr) (ps : Array Value) (h : Heap) : Prop where
  code : h.IsCode c P ps
  tab : h.TableAt c P ps
theorem Tb.of {c P : Addr} {ps : Array Value} {h h' : Heap} (t : Tb c P ps h) (hc : ∀ o, h.get? c = some o → h'.get? c = some o) (hP : ∀ o, h.get? P = some o → h'.get? P = some o) : Tb c P ps h' := by
  obtain ⟨⟨o, vs, file, tf, flags, tg, inF, text, tt, op, a, r1, r2, r3, r4, r5, r6, b, r⟩, ⟨⟨o', vs', e, r'⟩, f⟩⟩ := t
  exact ⟨⟨o, vs, file, tf, flags, tg, inF, text, tt, op, hc _ a, r1, r2, r3, r4, r5, r6, hP _ b, r⟩, ⟨⟨o', vs', hc _ e, r'⟩, hP _ f⟩⟩
theorem Tb.keeps {c P : Addr} {ps : Array Value} {h h' : Heap} (t : Tb c P ps h) (X : Ext h h') : Tb c P ps h' := ⟨t.code.keeps X, t.tab.keeps X⟩

section
variable {M : Model} {A : Around} {E : Value → Shared → Prop} {s : Shared}
theorem gen_code {env : Env} {c P : Addr} {ps : Array Value} {pos : Pos} {q : Str} {scope : Scope} {Q : Value → Shared → Prop} (hc : env.code = .ref c) (tb : Tb c P ps s.heap)
    (hQ : ∀ code h' tk ps', (∃ more, ps' = ps ++ more) → codeAmong pos ps'.toList ≠ none → (codeAmong pos ps.toList ≠ none → h' = s.heap ∧ ps' = ps) → s.heap.objs.size ≤ h'.objs.size → Heap.ExtBut P s.heap h' → Tb c P ps' h' → Q code { s with heap := h', toks := tk }) :
    wpAny M A (genexprCode env pos q scope) Q E s := by
  cases hnf : codeAmong pos ps.toList with
  | some cv =>
    obtain ⟨o, vs, file, tf, flags, tg, inF, text, tt, op, ho, hd, h11, h2, h7, h9, h10, hop, hpd, htr, hne⟩ := id tb.code
    unfold genexprCode codeAt
    rw [hc, if_neg (show ¬ ((Value.ref c == Value.none) = true) from Bool.false_ne_true)]
    refine wpAny_bind (wpAny_fieldsOf ho hd ?_)
    rw [h11]
    refine wpAny_bind (wpAny_fieldsOf hop hpd ?_)
    rw [hnf]
    exact wpAny_pure (hQ cv s.heap s.toks ps ⟨#[], by simp⟩ (by rw [hnf]; exact Option.some_ne_none _) (fun _ => ⟨rfl, rfl⟩) (Nat.le_refl _) (Heap.ExtBut.refl _ _) tb)
  | none =>
    refine wpAny_genexprCodeX hc tb.code tb.tab hnf fun c' h' tk hx hge hlt hcode _ htab _ => ?_
    refine hQ _ h' tk _ ⟨_, rfl⟩ ?_ (fun h => absurd hnf h) (Nat.le_trans hge (Nat.le_of_lt hlt)) hx ⟨hcode, htab⟩
    obtain ⟨_, _, _, _, _, _, _, _, _, _, _, _, _, _, _, _, _, _, _, htr, _⟩ := tb.code
    have e : (ps ++ #[rawInt pos.line, rawInt pos.col, Value.ref c']).toList = ps.toList ++ [rawInt pos.line, rawInt pos.col, .ref c'] := by simp
    rw [e, codeAmong_snoc _ htr hnf]
    exact Option.some_ne_none _
end

theorem strs_tup {N : Addr → Prop} {h : Heap} : ∀ {xs : List Str} {vs : List Value}, RepL N h (xs.map .str) vs → (∀ x ∈ xs, x.length ≤ sizeLine) → (∀ v ∈ vs, ∃ x u, v = .str x u ∧ x.length ≤ sizeLine) ∧
    ∃ l : List (Str × Tok), vs.filter keepS = strValues l ∧ l.map (·.1) = xs.filter fun x => decide (x.length ≠ 0)
  | [], vs, r, _ => by rw [RepL.nil_iff.mp r]; exact ⟨fun v hv => (by cases hv), [], rfl, rfl⟩
  | x :: xs, vs, r, hx => by
    obtain ⟨v, vs', rfl, h1, h2⟩ := RepL.cons_iff.mp r
    obtain ⟨t, rfl⟩ := Rep.str_iff.mp h1
    obtain ⟨i1, l, i2, i3⟩ := strs_tup h2 fun y hy => hx y (List.mem_cons_of_mem _ hy)
    refine ⟨fun v hv => ?_, ?_⟩
    · rcases List.mem_cons.mp hv with rfl | hv
      · exact ⟨x, t, rfl, hx x (List.mem_cons_self ..)⟩
      · exact i1 v hv
    · by_cases h0 : x.length = 0
      · exact ⟨l, by rw [List.filter_cons, if_neg (by simp [keepS, h0])]; exact i2, by rw [List.filter_cons, if_neg (by simp [h0])]; exact i3⟩
      · exact ⟨(x, t) :: l, by rw [List.filter_cons, if_pos (by simp [keepS, h0]), i2]; rfl, by rw [List.filter_cons, if_pos (by simp [h0]), ← i3]; rfl⟩

section
variable {prog : Program} {w : World} {A : Around} {E : Value → Shared → Prop} {s : Shared} {env : Env} {N : Addr → Prop} {mg mb : Str → Option Value}

/-- '-'.join(x.strip() for x in filter(len, args)) -/
theorem gen_join {elt iter : Expr} {c P : Addr} {ps : Array Value} {bm : Addr} {ob : Obj} {scope : Scope} {ap p gp pos cp px fp lp np : Pos} {k : Nat} {xs : List Str} {Q : Value → Shared → Prop} (FEe : FE env) (Gm : GM mg mb) (BM : BMod s.heap mainGlobals mg bm ob) (hbm : bm ≠ P) (hgP : mainGlobals ≠ P) (hbP : builtinsNs ≠ P) (hcP : cStatics ≠ P)
    (hh : A.handled = none) (hroom : A.depth < recursionLimit) (T : 0 < s.toks) (tb : Tb c P ps s.heap) (hc : env.code = .ref c) (hlim : s.heap.NoLimit) (Gm2 : Gl mg mb s.heap)
    (hfk : env.kindOf "filter" = some .globalImplicit) (hlk : env.kindOf "len" = some .globalImplicit) (ha : Has env s.heap "args" v) (hr : Rep N s.heap (.tup (xs.map .str)) v) (hxs : ∀ x ∈ xs, x.length ≤ sizeLine) (hlen : xs.length ≤ 1000)
    (hiter : iter = .Call (.Name "filter" fp) [.Name "len" lp, .Name "args" np] [] cp) (helt : elt = .Call (.Attribute (.Name "x" px) "strip" gp) [] [] pos') 
    (hco : scope.isCoroutine = false) (hclos : closureFor scope env = pure []) (hcell : ∀ y ∈ scope.names, y.2 ≠ .cell) (h0 : scope.names.lookup (".0" : Str) = some NameKind.local) (hx : scope.names.lookup ("x" : Str) = some NameKind.local) (hkind : scope.kind = .function)
    (hjo : JoinOk "-" ((xs.filter fun x => decide (x.length ≠ 0)).map Txt.strip) = true)
    (q : ∀ s' t ps', (∀ b o, b ≠ P → s.heap.get? b = some o → s'.heap.get? b = some o) → Tb c P ps' s'.heap → (∃ more, ps' = ps ++ more) → codeAmong pos ps'.toList ≠ none → (codeAmong pos ps.toList ≠ none → ps' = ps) →
      Sm s s' → Q (.str (Txt.join "-" ((xs.filter fun x => decide (x.length ≠ 0)).map Txt.strip)) t) s')
    (hse : starEach [.GeneratorExp elt [⟨.Name "x" xp, iter, [], 0⟩] scope pos] env = [(false, eval (.GeneratorExp elt [⟨.Name "x" xp, iter, [], 0⟩] scope pos) env)])
    (hp : (ap.endLine == p.line) = true) (hgp : (gp.endLine == pos'.line) = true) :
    wpAny (model prog w) A (eval (.Call (.Attribute (.Constant (.str "-") k kp) "join" ap) [.GeneratorExp elt [⟨.Name "x" xp, iter, [], 0⟩] scope pos] [] p) env) Q E s := by
  subst hiter helt
  obtain ⟨t, vs, n, rfl, ht, hl, rl⟩ := Rep.tup_iff.mp hr
  obtain ⟨hstr, l0, hl0, hl1⟩ := strs_tup rl hxs
  refine wpAny_with_toks (Nat.le_refl s.toks) ?_
  refine Call_method1 rfl hse hp (wpAny_Constant_str ?_)
  refine ⟨"str", _, PySem.F.plainAttrs_str, PySem.F.slot_str_join, PySem.F.type_str_join, typeIs_str _ _ _, (fun _ e => nomatch e), ?_⟩
  refine Calls.callWith_builtin rfl (Calls.evalArgs_plain (Calls.spliced_cons ?_))
  have hst0 : IsFlt ((s.heap.push { cls := .type "tuple_iterator", data := .fields #[.ref t, .int 0 0] }).push { cls := .type "filter", data := .fields #[.builtin "len", .ref s.heap.objs.size] }) (s.heap.objs.size + 1) s.heap.objs.size := by
    have hg := Heap.get?_push_size (s.heap.push { cls := .type "tuple_iterator", data := .fields #[.ref t, .int 0 0] }) (o := { cls := .type "filter", data := .fields #[.builtin "len", .ref s.heap.objs.size] }) rfl
    rw [Heap.size_push] at hg
    exact hg
  have hst1 : Heap.IsTupleIter ((s.heap.push { cls := .type "tuple_iterator", data := .fields #[.ref t, .int 0 0] }).push { cls := .type "filter", data := .fields #[.builtin "len", .ref s.heap.objs.size] }) s.heap.objs.size t 0 :=
    ⟨_, Heap.get?_push_of_some _ (Heap.get?_push_size _ rfl), rfl, rfl⟩
  have kH : Ext s.heap ((s.heap.push { cls := .type "tuple_iterator", data := .fields #[.ref t, .int 0 0] }).push { cls := .type "filter", data := .fields #[.builtin "len", .ref s.heap.objs.size] }) := fun b o e => Heap.get?_push_of_some _ (Heap.get?_push_of_some _ e)
  have hHs : ((s.heap.push { cls := .type "tuple_iterator", data := .fields #[.ref t, .int 0 0] }).push { cls := .type "filter", data := .fields #[.builtin "len", .ref s.heap.objs.size] }).objs.size = s.heap.objs.size + 2 := by rw [Heap.size_push, Heap.size_push]
  have htlt : t < s.heap.objs.size := Heap.lt_size hl
  have hPlt : P < s.heap.objs.size := Heap.lt_size tb.tab.2
  have htup : s.heap.IsTuple t vs.toArray := ⟨_, hl, rfl, _, rfl⟩
  have tP : t ≠ P := fun e => by
    have := tb.tab.2; rw [← e, hl] at this; cases this
  have W : ∀ A' : Around, A'.handled = none → Walks prog w A' (s.heap.objs.size + 1) [s.heap.objs.size + 1, s.heap.objs.size, t] [s.heap.objs.size] (vs.toArray.toList.filter keepS).length (fun i v => (vs.toArray.toList.filter keepS)[i]? = some v)
      (fun i h => IsFlt h (s.heap.objs.size + 1) s.heap.objs.size ∧ ∃ j, h.IsTupleIter s.heap.objs.size t j ∧ h.IsTuple t vs.toArray ∧ (vs.toArray.toList.drop j).filter keepS = (vs.toArray.toList.filter keepS).drop i) := fun A' hA =>
    flt_walks hA (Nat.succ_ne_self _) (Nat.ne_of_lt htlt) (by simpa using hstr)
  refine wpAny_GeneratorExp_walksQ hh hco hclos hcell h0 hx hkind hroom ?_ (fun _ => rfl)
  refine wpAny_Call_NameR (name_b (id := "filter") (s := { s with toks := s.toks + 1 }) FEe Gm2 hfk Gm.filter.1 Gm.filter.2 ?_)
  rw [show backTo cp (starEach [.Name "len" lp, .Name "args" np] env) = [(false, eval (.Name "len" lp) env), (false, eval (.Name "args" np) env)] from rfl]
  refine PySem.callWith_type rfl (Calls.evalArgs_plain (Calls.spliced_cons (name_b (id := "len") (s := { s with toks := s.toks + 1 }) FEe Gm2 hlk Gm.len.1 Gm.len.2 (Calls.spliced_cons (ha.load (s := { s with toks := s.toks + 1 }) FEe.kind (Ext.refl _) (Calls.spliced_nil ?_))))))
  refine call_flt (s := { s with toks := s.toks + 1 }) htup ?_
  dsimp only
  generalize hH2 : (s.heap.push { cls := .type "tuple_iterator", data := .fields #[.ref t, .int 0 0] }).push { cls := .type "filter", data := .fields #[.builtin "len", .ref s.heap.objs.size] } = H2 at hst0 hst1 kH hHs ⊢
  have st0 : (fun (i : Nat) (h : Heap) => IsFlt h (s.heap.objs.size + 1) s.heap.objs.size ∧ ∃ j, h.IsTupleIter s.heap.objs.size t j ∧ h.IsTuple t vs.toArray ∧ (vs.toArray.toList.drop j).filter keepS = (vs.toArray.toList.filter keepS).drop i) 0 H2 :=
    ⟨hst0, 0, hst1, htup.at fun o e => kH _ _ e, rfl⟩
  refine (W A hh).self 0 _ _ _ st0 ?_
  refine ⟨hlim.keeps kH, gen_code hc (tb.keeps kH) fun code h' tk ps' hmore hfound hsame hsz hx' tb' => ?_⟩
  have up : ∀ b o, b ≠ P → s.heap.get? b = some o → h'.get? b = some o := fun b o hb e => hx' b o hb (kH b o e)
  have nsUp : ∀ {a : Addr} {m : Str → Option Value}, a ≠ P → s.heap.Ns a m → h'.Ns a m := fun ha hn => hn.at' fun o e => up _ o ha e
  have hlim' : h'.NoLimit := hlim.at fun o e => up _ o hcP e
  refine wpAny_builtinsFor (s := { s with heap := h', toks := tk }) (nsUp (FEe.glob ▸ hgP) (FEe.glob ▸ BM.ns)) BM.name BM.ne (up _ _ hbm BM.obj) BM.cls BM.dict BM.data ?_
  have szlt : s.heap.objs.size + 2 ≤ h'.objs.size := hHs ▸ hsz
  refine ⟨s.heap.objs.size + 1, _, _, _, _, _, fun _ => true, fun i y => ∃ x u t', (vs.toArray.toList.filter keepS)[i]? = some (.str x u) ∧ y = .str (Txt.strip x) t', rfl, W, ?_, ?_, hlim', ?_, ?_, ?_⟩
  · exact ⟨hx' _ _ (Nat.ne_of_gt (Nat.lt_succ_of_lt hPlt)) hst0, 0, hst1.at fun o e => hx' _ o (Nat.ne_of_gt hPlt) e, htup.at fun o e => up _ o tP e, rfl⟩
  · intro b hb
    simp only [List.mem_cons, List.not_mem_nil, or_false] at hb
    show b < h'.objs.size
    have z0 : s.heap.objs.size < h'.objs.size := Nat.lt_of_succ_lt szlt
    rcases hb with e | e | e
    · rw [e]; exact szlt
    · rw [e]; exact z0
    · rw [e]; exact Nat.lt_trans htlt z0
  · intro hm
    obtain ⟨_, hn, _⟩ := hlim
    have := hn.lt
    rw [List.mem_singleton.mp hm] at this
    exact Nat.lt_irrefl _ this
  · intro href hk
    refine ⟨fun A' E' i v s₂ m₂ hA hPv hn hm _ => wpAny_tests_nil ⟨rfl, ⟨s₂.heap, s₂.toks, rfl, fun _ _ e => e⟩⟩, fun A' E' i v s₂ m₂ hA hPv _ hn hm _ => ?_⟩
    have hv : v ∈ vs := by
      have := List.mem_of_getElem? hPv
      exact (List.mem_filter.mp (by simpa using this)).1
    obtain ⟨x, u, rfl, hxl⟩ := hstr v hv
    refine Call_method0 rfl hgp ((Has.loc (env := genEnv scope [] h'.objs.size code builtinsNs env) hx hn hm).load hkind (Ext.refl _) ?_)
    exact SB.strip (fun t' k' => ⟨⟨x, u, t', hPv, rfl⟩, ⟨s₂.heap, k', rfl, fun _ _ e => e⟩⟩) hxl
  · intro a h₅ tk₅ gs hgb hag hsz₅ hk₅ W5 hat
    refine Calls.spliced_nil ?_
    have hpass : ∀ n, passing (fun _ => true) n 0 = List.range n := fun n => by
      unfold passing; rw [List.drop_zero]; exact List.filter_eq_self.mpr fun _ _ => rfl
    have hfl : vs.toArray.toList.filter keepS = strValues l0 := by simpa using hl0
    have hn0 : (vs.toArray.toList.filter keepS).length = l0.length := by rw [hfl]; simp [strValues]
    refine SC.joinGen W5.in4_2 (fun i s' st => st.1.typeIs) hat ?_ (List.mem_cons_self ..) (fun j y hy => ?_) (fun s' l hm hacc => ?_) ?_
    · intro b hb
      show b < h₅.objs.size
      rw [hsz₅]
      rcases List.mem_cons.mp hb with rfl | hb
      · exact Nat.lt_succ_self _
      · rcases List.mem_cons.mp hb with rfl | hb
        · exact Nat.lt_succ_of_lt hag
        · exact Nat.lt_succ_of_lt (Nat.lt_trans (List.mem_range.mp hb) hag)
    · obtain ⟨i, _, x, u, t', _, rfl⟩ := hy
      exact ⟨_, _, rfl⟩
    · have hll : l.map (·.1) = (xs.filter fun x => decide (x.length ≠ 0)).map Txt.strip := by
        rw [← hl1, List.map_map]
        have hsz' : l.length = l0.length := by
          have := hacc.1
          rw [hpass, List.length_range, hn0] at this
          simpa [strValues] using this
        apply List.ext_getElem?
        intro j
        rw [List.getElem?_map, List.getElem?_map]
        by_cases hj : j < l.length
        · have hj0 : j < l0.length := hsz' ▸ hj
          obtain ⟨i, hi, x, u, t', h1, h2⟩ := hacc.2 j (.str l[j].1 l[j].2) (by simp [strValues, List.getElem?_eq_getElem hj])
          rw [hpass, hn0, List.getElem?_range hj0] at hi
          cases hi
          rw [hfl] at h1
          injection h2 with h2 _
          rw [List.getElem?_eq_getElem hj, List.getElem?_eq_getElem hj0]
          have h3 : l0[j].1 = x := by
            have : (strValues l0)[j]? = some (.str l0[j].1 l0[j].2) := by simp [strValues, List.getElem?_eq_getElem hj0]
            rw [this] at h1
            injection h1 with h1; injection h1
          simp [h2, h3]
        · rw [List.getElem?_eq_none (by omega), List.getElem?_eq_none (by omega)]; rfl
      rw [hll]
      refine ⟨hjo, fun t' k' hle => ?_⟩
      have far : ∀ b, b < s.heap.objs.size → b ∉ h'.objs.size :: [s.heap.objs.size] := fun b hb hm' => by
        rcases List.mem_cons.mp hm' with e | e
        · rw [e] at hb; exact absurd hb (Nat.not_lt.mpr (Nat.le_of_lt (Nat.lt_of_succ_lt szlt)))
        · rw [List.mem_singleton.mp e] at hb; exact Nat.lt_irrefl _ hb
      have last : ∀ b o, b < s.heap.objs.size → h'.get? b = some o → s'.heap.get? b = some o := fun b o hb e => hm.heap b o (far b hb) (hk₅ b o e)
      have clt : c < s.heap.objs.size := tb.code.lt.1
      refine q _ _ ps' (fun b o hb e => last b o (Heap.lt_size e) (up b o hb e)) (tb'.of (fun o e => last c o clt e) fun o e => last P o hPlt e) hmore hfound (fun h => (hsame ?_).2) ⟨⟨fun hb => (hb.push hgb).moved hm.gens⟩, hm.os, hm.drawn, hle⟩
      exact h
    · rw [hpass, List.length_range, hn0, sizeLine_eq]
      have h1 : (l0.map (·.1)).length ≤ xs.length := by rw [hl1]; exact List.length_filter_le ..
      rw [List.length_map] at h1
      omega
end
end Mine

end

-- part V3
section
open PySem PySem.W PyProof.Rows
set_option Elab.async false
set_option linter.unusedVariables false
set_option maxRecDepth 100000
set_option pp.deepTerms false
set_option pp.maxSteps 1500
namespace Mine
section
variable {prog : Program} {w : World} {A : Around} {N : Addr → Prop}

/-- a call of a def: the general form -/
theorem enterG {s : Shared} {a : Addr} {o : Obj} {fd : FuncData} {body : List Stmt} {vs : List Value} {ns : List Str} {ds : List D} {n : Nat} {Q : Value → Shared → Prop} {E : Value → Shared → Prop} (rm : Rm A (n + 1)) (ho : s.heap.get? a = some o) (hdata : o.data = .func fd) (hlim : s.heap.NoLimit)
    (hcd : s.heap.CodeRec fd.code fd.qualname) (hbody : fd.body = .stmts body) (hclo : fd.closure = []) (hN : New N s.heap) (hT : 0 < s.toks) (hbind : ∀ (Q : List (Str × Value) → Shared → Prop) (E : Value → Shared → Prop), (∀ us s₁, Gr s s₁ → RepL N s₁.heap ds us → Q (ns.zip us) s₁) → wpAny (model prog w) A.in1 (bindArgs fd ⟨vs, []⟩) Q E s) (hlen : ns.length = ds.length) (hnd : ns.Nodup)
    (hkind : ∀ m : Nat, ∀ x ∈ ns, fd.scope.names.lookup x = some .local ∨ (fd.scope.names.lookup x = some .cell ∧ ((cellsFrom m fd.scope.names []).lookup x).isSome = true))
    (hcn : ((cellsFrom 0 fd.scope.names []).map (·.1)).Nodup) (hk : fd.scope.kind = .function)
    (h : ∀ s₀ L N' ad s₁ E', Gr s s₀ → FSN (callEnvC fd L a) (fun a o => s₀.heap.get? a = some o) (fun _ => False) N N' ad (Vars.of (ns.zip ds)) [] s₁.heap → Sm s₀ s₁ → Rm (A.deeper (callEnvC fd L a)) n →
      wpAny (model prog w) (A.deeper (callEnvC fd L a)) (execs body (callEnvC fd L a)) (fun f s' => ∃ v, f = .ret v ∧ Q v s') E' s₁)
    (hco : fd.scope.isCoroutine = false := by rfl) (hgen : fd.scope.isGenerator = false := by rfl) :
    wpAny (model prog w) A (call (.ref a) vs) Q E s := by
  refine wpAny_call (codeAny_call_function rm.room ho hdata hco hgen hbody hcd ?_)
  rw [hclo]
  refine hbind _ _ fun vs s₀ g₀ r => ?_
  have hlv : ns.length = vs.length := hlen.trans r.length.symm
  replace hlim := hlim.keeps g₀.keep
  replace hN : New N s₀.heap := fun a ha => hN a (Ext.new g₀.keep ha)
  refine (wpAny_with_toks (Nat.le_refl s₀.toks) (wpAny_newFunctionEnv_cells hk (fun x hx => hkind _ x.1 (by rw [← zip_names hlv]; exact List.mem_map.mpr ⟨x, hx, rfl⟩)) fun env he s₁ x hle => ?_))
  subst he
  refine ⟨hlim.keeps x.toInCall.keep, codeAny_func ?_⟩
  generalize hLe : s₀.heap.objs.size = L at x ⊢
  replace x : InCallC s₀ (callEnvC fd L a).locals (bindL (callEnvC fd L a).kindOf (ns.zip vs) fun _ => none) (callEnvC fd L a).cells (bindC (callEnvC fd L a).kindOf (ns.zip vs) fun _ => none) s₁ := x
  show wpAny (model prog w) (A.deeper (callEnvC fd L a)) (execs body (callEnvC fd L a)) _ _ s₁
  have hsame := x.toInCall.same
  have hns := x.toInCall.ns
  have keep := x.toInCall.keep
  have hbel : ∀ b o, s₀.heap.get? b = some o → b < L := fun b o e => hLe ▸ Heap.lt_size e
  have hmem : ∀ c ∈ (callEnvC fd L a).cells, (callEnvC fd L a).cells.lookup c.1 = some c.2 := fun c hc => by
    refine lookup_of_mem_nodup ?_ hc
    show ((cellsFrom (L + 1) fd.scope.names []).map (·.1)).Nodup
    rw [cellsFrom_names fd.scope.names (L + 1) 0 [] [] rfl]; exact hcn
  have hce : ∀ c ∈ (callEnvC fd L a).cells, ∃ v, s₁.heap.IsCell c.2 v := fun c hc => ⟨_, x.cell _ _ (hmem c hc)⟩
  have habove : ∀ c ∈ (callEnvC fd L a).cells, L < c.2 := fun c hc => x.above c.1 c.2 hc
  have hm : mcells (callEnvC fd L a) = (callEnvC fd L a).cells := by unfold mcells; exact if_pos rfl
  have hL : (callEnvC fd L a).locals = L := rfl
  have notMut : ∀ b o, s₀.heap.get? b = some o → ¬ Mut (callEnvC fd L a) (fun _ => 0) [] b := fun b o e hM => by
    have hb := hbel b o e
    rcases hM with e | ⟨c, hc, e⟩ | ⟨e, he, _⟩
    · rw [hL] at e; exact absurd hb (by rw [e]; exact Nat.lt_irrefl _)
    · rw [hm] at hc; have := habove c hc; rw [← e] at this; exact absurd hb (Nat.not_lt.mpr (Nat.le_of_lt this))
    · cases he
  have live : ∀ b, Mut (callEnvC fd L a) (fun _ => 0) [] b → s₁.heap.get? b ≠ none := fun b hM e => by
    rcases hM with e' | ⟨c, hc, e'⟩ | ⟨e, he, _⟩
    · obtain ⟨o, _, _, ho, _⟩ := hns; rw [e'] at e; rw [show s₁.heap.get? _ = some o from ho] at e; cases e
    · rw [hm] at hc; obtain ⟨v, o, ho, _⟩ := hce c hc; rw [e', ho] at e; cases e
    · cases he
  have FS : FSN (callEnvC fd L a) (fun a o => s₀.heap.get? a = some o) (fun _ => False) N (fun b => N b ∧ ¬ Mut (callEnvC fd L a) (fun _ => 0) [] b) (fun _ => 0) (Vars.of (ns.zip ds)) [] s₁.heap := by
    refine ⟨hk, fun b hb => ⟨hb.1, id, hb.2⟩, fun b hb => ⟨hN b (Ext.new keep hb), fun hM => live b hM hb⟩, keep, notMut, ⟨_, hns⟩, hce, by rw [hm]; exact x.apart, fun c hc => ?_, fun y d' e => ?_, fun e he => (by cases he), fun e he => (by cases he), fun e he => (by cases he), fun e he => (by cases he), fun e he => (by cases he)⟩
    · rw [hL]; exact Nat.ne_of_gt (habove c hc)
    · obtain ⟨v, hv, rv⟩ := zip_lookup r e
      refine ⟨v, ?_, rv.map fun b o hb e => ⟨⟨hb, notMut b o e⟩, keep b o e⟩⟩
      have hnd' : ((ns.zip vs).map (·.1)).Nodup := by rw [zip_names hlv]; exact hnd
      have hy : y ∈ ns := by rw [← zip_names hlv]; exact List.mem_map.mpr ⟨_, mem_of_lookup hv, rfl⟩
      have hb := bind_at (kf := (callEnvC fd L a).kindOf) (m := fun _ => none) (cm := fun _ => none) hnd' hv
      rcases hkind (L + 1) y hy with hl | ⟨hl, hc⟩
      · exact .loc hl hns (hb.1 hl)
      · obtain ⟨c, hc⟩ := Option.isSome_iff_exists.mp hc
        refine .cell hl hc ?_
        rw [← hb.2 (by show fd.scope.names.lookup y ≠ _; rw [hl]; decide)]
        exact x.cell y c hc
  refine wpAny_mono (h s₀ L _ _ s₁ _ g₀ FS ?_ (rm.deeper _)) (fun f s' hf => ?_) fun _ _ e => e
  · obtain ⟨h₁, tk, rfl⟩ := hsame
    exact ⟨.refl _, rfl, rfl, hle⟩
  · obtain ⟨v, rfl, hq⟩ := hf
    exact hq

end
end Mine

end

-- part V4
section
open PySem PySem.W PyProof.Rows
set_option Elab.async false
set_option linter.unusedVariables false
set_option maxRecDepth 100000
set_option pp.deepTerms false
set_option pp.maxSteps 1500
namespace Mine

inductive Sq : Nat → Str → Str → Prop
  | stop {x : Str} : x.length ≤ 10000 → Txt.replace x "--" "-" = x → Sq 0 x x
  | go {n : Nat} {x y : Str} : x.length ≤ 10000 → Txt.replace x "--" "-" ≠ x → Sq n (Txt.replace x "--" "-") y → Sq (n + 1) x y
inductive Tl : Nat → Str → Str → Prop
  | stop {x : Str} : x.length ≤ 10000 → (x.length = 0 ∨ Txt.item x (-1) ≠ "-") → Tl 0 x x
  | go {n : Nat} {x y : Str} : x.length ≤ 10000 → x.length ≠ 0 → Txt.item x (-1) = "-" → Tl n (Txt.slice x none (some (-1))) y → Tl (n + 1) x y
def midPairs : List (Str × Str) := [(" ", "_"), ("/", "-"), ("\\", "-"), (":", "-"), (";", "-"), ("\"", "-"), ("(", "-"), (")", "-"), ("unknown", "")]
def MidL : List (Str × Str) → Str → Str → Prop
  | [], x, y => x = y
  | p :: r, x, y => x.length ≤ 10000 ∧ MidL r (Txt.replace x p.1 p.2) y
def joinF (xs : List Str) : Str := Txt.join "-" ((xs.filter fun x => decide (x.length ≠ 0)).map Txt.strip)
structure Plat (xs : List Str) (y : Str) : Prop where
  few : xs.length ≤ 10
  short : ∀ x ∈ xs, x.length ≤ 10000
  jo : JoinOk "-" ((xs.filter fun x => decide (x.length ≠ 0)).map Txt.strip) = true
  rest : ∃ x9 x10 n m, MidL midPairs (joinF xs) x9 ∧ Sq n x9 x10 ∧ Tl m x10 y

/-- where the generator stands -/
def gpos : Pos := ⟨3, 24, 3, 62⟩

theorem sz1 {n m : Nat} (h : n ≤ 10000) (h' : m ≤ 1) : n + (n + 1) * m ≤ 16777216 := by
  have : (n + 1) * m ≤ (n + 1) * 1 := Nat.mul_le_mul_left _ h'
  omega

theorem charAt_last {x : Str} (h : x.length ≠ 0) : (Txt.charAt x (-1)).isSome = true := by
  unfold Txt.charAt
  have : seqIndex? (-1) x.length = some (x.length - 1) := by
    unfold seqIndex?
    simp
    omega
  rw [this]
  show (x.cps[x.length - 1]?).isSome = true
  rw [Array.getElem?_eq_getElem (by show x.length - 1 < x.length; omega)]; rfl

section
variable {prog : Program} {w : World} {A : Around} {N : Addr → Prop} {mg mb : Str → Option Value} {p : Params}

theorem bind_platform {fd : FuncData} {vs : List Value} {s : Shared} {Q : List (Str × Value) → Shared → Prop} {E : Value → Shared → Prop} (hq : fd.params.posonlyargs = [] ∧ fd.params.args = [] ∧ fd.params.kwonlyargs = [] ∧ fd.params.kwarg = none ∧ (∃ a, fd.params.vararg = some a ∧ a.arg = "args") ∧ fd.defaults = .none) (hsz : vs.length ≤ sizeLine)
    (q : Q [("args", .ref s.heap.objs.size)] { s with heap := s.heap.push { cls := .type "tuple", data := .seq vs.toArray } }) : wpAny (model prog w) A (bindArgs fd ⟨vs, []⟩) Q E s := by
  obtain ⟨h1, h2, h3, h4, ⟨a, h5, h6⟩, h7⟩ := hq
  unfold bindArgs
  simp only [h1, h2, h3, h4, h5, h6, h7, List.map_nil, List.nil_append, List.append_nil, List.zip_nil_left, List.length_nil, Option.isNone_some, Bool.and_false]
  rw [List.forIn_nil]
  refine wpAny_bind (wpAny_pure ?_)
  refine wpAny_bind (wpAny_of_eq (a := none) rfl ?_)
  simp only [Option.getD_none, List.drop_nil, List.zip_nil_right, List.forIn_nil, List.filter_nil, List.take_nil, List.isEmpty_nil, Bool.not_true, Bool.false_eq_true, if_false, List.filterMap_nil, List.drop_zero]
  refine wpAny_bind (wpAny_pure (wpAny_bind (wpAny_pure ?_)))
  show wpAny (model prog w) A (newTuple vs >>= fun t => pure ([] ++ [(("args" : Str), t)])) Q E s
  exact wpAny_bind (wpAny_newTuple (wpAny_pure q) hsz)

theorem c_plat {s : Shared} {vs : List Value} {xs : List Str} {y : Str} {ps : Array Value} {bm : Addr} {ob : Obj} {Q : Value → Shared → Prop} {E : Value → Shared → Prop} (GMm : GM mg mb) (BM : BMod s.heap mainGlobals mg bm ob) (hbm : bm ≠ 16) (G : GE (hd.heap_39 p) mg mb s.heap) (rm : Rm A 2) (hN : New N s.heap) (hN16 : ¬ N 16) (T : 0 < s.toks)
    (tb : Tb 20 16 ps s.heap) (r : RepL N s.heap (xs.map .str) vs) (hp : Plat xs y)
    (q : ∀ s' t ps', (∀ b o, b ≠ 16 → s.heap.get? b = some o → s'.heap.get? b = some o) → Tb 20 16 ps' s'.heap → (∃ more, ps' = ps ++ more) → codeAmong gpos ps'.toList ≠ none → (codeAmong gpos ps.toList ≠ none → ps' = ps) → Sm s s' → Q (.str y t) s') :
    wpAny (model prog w) A (call (.ref 21) vs) Q E s := by
  obtain ⟨hfew, hshort, hjo, x9, x10, nn, mm, hmid, hsq, htl⟩ := hp
  have hvl : vs.length ≤ 10 := by have := r.length; rw [List.length_map] at this; omega
  refine enterG (N := N) (ns := ["args"]) (ds := [.tup (xs.map .str)]) rm (G.k 21 _ rfl) rfl G.lim ⟨20, _, _, _, rfl, G.k 20 _ rfl, rfl, rfl⟩ rfl rfl hN T
    (fun Q E q => bind_platform ⟨rfl, rfl, rfl, rfl, ⟨_, rfl, rfl⟩, rfl⟩ (by rw [sizeLine_eq]; omega) (q [_] _ (Gr.push s _ _ (Nat.le_refl _)) (.cons (Rep.tup_iff.mpr ⟨_, vs, 0, rfl, hN.at (Ext.refl _) (Nat.le_refl _), Heap.get?_push_size _ rfl, r.gr (Gr.push s _ _ (Nat.le_refl _))⟩) .nil)))
    rfl (by decide) (fun m x hx => by rcases List.mem_singleton.mp hx with rfl; exact .inl rfl) (by decide) rfl fun s₀ L N' ad s₁ E' g₀ F m rm' => ?_
  have T₀ := g₀.sm.pos T
  have X₁ : Ext s.heap s₁.heap := fun b o e => F.keep b o (g₀.keep b o e)
  have m1 := g₀.sm.trans m
  have tb₁ := tb.keeps X₁
  have GE₁ := G.ext X₁
  have hN' : ¬ N' 16 := fun h => hN16 (F.sub _ h).1
  obtain ⟨o16, ho16⟩ : ∃ o, s₀.heap.get? 16 = some o := ⟨_, g₀.keep _ _ tb.tab.2⟩
  have hM16 := F.off 16 o16 ho16
  have F₁ := F.less (Bk' := fun a o => s₀.heap.get? a = some o ∧ a ≠ 16) fun a o h => h.1
  obtain ⟨va, Ha, Ra⟩ := F.vars "args" (.tup (xs.map .str)) rfl
  refine wpAny_execs_cons (wpAny_Assign_Name (gen_join ⟨rfl, rfl, rfl⟩ GMm (BM.keeps X₁) hbm (by decide) (by decide) (by decide) rm'.hh rm'.room (m1.pos T) tb₁ rfl GE₁.lim GE₁.gl rfl rfl Ha Ra (fun x hx => Nat.le_trans (hshort x hx) (by rw [sizeLine_eq]; omega)) (by omega) rfl rfl rfl rfl (by decide) rfl rfl rfl hjo (fun s₂ t ps' keep tb₂ hmore hfound hsame m₂ => ?_) rfl rfl rfl) rfl)
  have ex : Heap.ExtBut 16 s₁.heap s₂.heap := fun b o hb e => keep b o hb e
  have F₂ := F₁.extBut ex (fun _ x => x) hN' F.sub (fun e => by rw [tb₂.tab.2] at e; cases e) (fun o h => h.2 rfl) hM16 (fun c hc => by cases hc)
  have F₃ := F₂.guard (Bk' := fun a o => (s₀.heap.get? a = some o ∧ a ≠ 16) ∨ (a = 16 ∧ s₂.heap.get? 16 = some o)) (fun a o h => h.elim (F₂.keep a o) fun h => h.1 ▸ h.2) (fun a o h => h.elim (F₂.off a o) fun h => h.1 ▸ hM16)
  have m2 := m1.trans m₂
  refine F₃.store (d := .str (joinF xs)) (.inl rfl) .str' fun s₃ m₃ F₃ _ => ?_
  have m3 := m2.trans m₃
  have fin : ∀ s' t, Sm s s' → (∀ b o, ((s₀.heap.get? b = some o ∧ b ≠ 16) ∨ (b = 16 ∧ s₂.heap.get? 16 = some o)) → s'.heap.get? b = some o) → Q (.str y t) s' := fun s' t m' k' => by
    obtain ⟨oc, hoc⟩ : ∃ o, s₀.heap.get? 20 = some o := ⟨_, g₀.keep _ _ (G.k 20 _ rfl)⟩
    have h2 : s₂.heap.get? 20 = some oc := keep 20 oc (by decide) (F.keep _ _ hoc)
    refine q s' t ps' (fun b o hb e => k' b o (.inl ⟨g₀.keep b o e, hb⟩)) (tb₂.of (fun o e => ?_) fun o e => k' 16 o (.inr ⟨rfl, e⟩)) hmore hfound hsame m'
    rw [h2] at e; cases e
    exact k' 20 oc (.inl ⟨hoc, by decide⟩)
  obtain ⟨q0, hmid⟩ := hmid
  refine wpAny_execs_cons (F₃.assign (m3.pos T) (.inl rfl) (.replace (F₃.ev (d := .str _) rfl) (sz1 q0 (by decide)) (by decide)) fun s₃ m₄ F₃ => ?_)
  replace m3 := m3.trans m₄
  obtain ⟨q0, hmid⟩ := hmid
  refine wpAny_execs_cons (F₃.assign (m3.pos T) (.inl rfl) (.replace (F₃.ev (d := .str _) rfl) (sz1 q0 (by decide)) (by decide)) fun s₃ m₄ F₃ => ?_)
  replace m3 := m3.trans m₄
  obtain ⟨q0, hmid⟩ := hmid
  refine wpAny_execs_cons (F₃.assign (m3.pos T) (.inl rfl) (.replace (F₃.ev (d := .str _) rfl) (sz1 q0 (by decide)) (by decide)) fun s₃ m₄ F₃ => ?_)
  replace m3 := m3.trans m₄
  obtain ⟨q0, hmid⟩ := hmid
  refine wpAny_execs_cons (F₃.assign (m3.pos T) (.inl rfl) (.replace (F₃.ev (d := .str _) rfl) (sz1 q0 (by decide)) (by decide)) fun s₃ m₄ F₃ => ?_)
  replace m3 := m3.trans m₄
  obtain ⟨q0, hmid⟩ := hmid
  refine wpAny_execs_cons (F₃.assign (m3.pos T) (.inl rfl) (.replace (F₃.ev (d := .str _) rfl) (sz1 q0 (by decide)) (by decide)) fun s₃ m₄ F₃ => ?_)
  replace m3 := m3.trans m₄
  obtain ⟨q0, hmid⟩ := hmid
  refine wpAny_execs_cons (F₃.assign (m3.pos T) (.inl rfl) (.replace (F₃.ev (d := .str _) rfl) (sz1 q0 (by decide)) (by decide)) fun s₃ m₄ F₃ => ?_)
  replace m3 := m3.trans m₄
  obtain ⟨q0, hmid⟩ := hmid
  refine wpAny_execs_cons (F₃.assign (m3.pos T) (.inl rfl) (.replace (F₃.ev (d := .str _) rfl) (sz1 q0 (by decide)) (by decide)) fun s₃ m₄ F₃ => ?_)
  replace m3 := m3.trans m₄
  obtain ⟨q0, hmid⟩ := hmid
  refine wpAny_execs_cons (F₃.assign (m3.pos T) (.inl rfl) (.replace (F₃.ev (d := .str _) rfl) (sz1 q0 (by decide)) (by decide)) fun s₃ m₄ F₃ => ?_)
  replace m3 := m3.trans m₄
  obtain ⟨q0, hmid⟩ := hmid
  refine wpAny_execs_cons (F₃.assign (m3.pos T) (.inl rfl) (.replace (F₃.ev (d := .str _) rfl) (sz1 q0 (by decide)) (by decide)) fun s₃ m₄ F₃ => ?_)
  replace m3 := m3.trans m₄
  replace hmid : _ = x9 := hmid
  refine seqW (fun s' => ∃ ρ, Sm s s' ∧ F₃.at ρ [] s'.heap ∧ ρ "platform" = some (.str x10)) ?_ fun s₅ h₅ => ?_
  · refine While_of (fun k s' => ∃ (x : Str) (ρ : Vars), Sq k x x10 ∧ Sm s s' ∧ F₃.at ρ [] s'.heap ∧ ρ "platform" = some (.str x)) nn ?_ fun k s' hI => ?_
    · exact ⟨x9, _, hsq, m3, F₃, by rw [← hmid]; rfl⟩
    · obtain ⟨x, ρ, hk, m', F', h1⟩ := hI
      have hx : x.length ≤ 10000 := by cases hk <;> assumption
      refine ⟨m'.pos T, true, Tr.bool (N := N') .bool, fun _ s₄ E'' g => ?_, fun h => by cases h⟩
      have m4 := m'.trans g.sm
      have F₄ := F'.grow g.keep
      refine wpAny_execs_cons (F₄.assign (m4.pos T) (.inl rfl) (.replace (F₄.ev (d := .str x) h1) (sz1 hx (by decide)) (by decide)) fun s₅ m₅ F₅ => ?_)
      have m5 := m4.trans m₅
      refine wpAny_execs_cons (F₅.ite (m5.pos T) (.cmp (F₅.ev (x := "cleaned") (d := .str (Txt.replace x "--" "-")) rfl) (F₅.ev (d := .str x) h1) .eqS) (fun hb s₆ m₆ F₆ => ?_) fun hb s₆ m₆ F₆ => ?_)
      · have e : Txt.replace x "--" "-" = x := of_decide_eq_true hb
        refine wpAny_execs_cons (wpAny_Break ⟨rfl, _, m5.trans m₆, F₆, ?_⟩)
        cases hk with
        | stop _ _ => exact h1
        | go _ hne _ => exact absurd e hne
      · have e : Txt.replace x "--" "-" ≠ x := of_decide_eq_false hb
        refine wpAny_execs_nil (wpAny_execs_cons (F₆.assign ((m5.trans m₆).pos T) (.inl rfl) (F₆.ev (x := "cleaned") (d := .str (Txt.replace x "--" "-")) rfl) fun s₇ m₇ F₇ => ?_))
        cases hk with
        | stop _ he => exact absurd he e
        | @go n _ _ _ _ hk' => exact wpAny_execs_nil ⟨n, Nat.lt_succ_self _, _, _, hk', (m5.trans m₆).trans m₇, F₇, rfl⟩
  · obtain ⟨ρ, m₅, F₅, h1⟩ := h₅
    refine seqW (fun s' => ∃ ρ, Sm s s' ∧ F₃.at ρ [] s'.heap ∧ ρ "platform" = some (.str y)) ?_ fun s₆ h₆ => ?_
    · refine While_of (fun k s' => ∃ (x : Str) (ρ : Vars), Tl k x y ∧ Sm s s' ∧ F₃.at ρ [] s'.heap ∧ ρ "platform" = some (.str x)) mm ?_ fun k s' hI => ?_
      · exact ⟨x10, ρ, htl, m₅, F₅, h1⟩
      · obtain ⟨x, ρ, hk, m', F', h1⟩ := hI
        have hx : x.length ≤ 10000 := by cases hk <;> assumption
        have hxs : x.length ≤ sizeLine := Nat.le_trans hx (by rw [sizeLine_eq]; omega)
        refine ⟨m'.pos T, _, Tr.of_all (.and_cons (.str (F'.ev (d := .str x) h1) hxs) fun h0 => .and_cons (.cmp (.itemS (F'.ev (d := .str x) h1) (.neg .int) (by decide) (charAt_last (of_decide_eq_true h0))) .str .eqS) fun _ => .and_nil), fun hb s₄ E'' g => ?_, fun hb s₄ g => ⟨rfl, ρ, m'.trans g.sm, F'.grow g.keep, ?_⟩⟩
        · have m4 := m'.trans g.sm
          have F₄ := F'.grow g.keep
          refine wpAny_execs_cons (F₄.assign (m4.pos T) (.inl rfl) (.sliceNS (F₄.ev (d := .str x) h1) (.neg .int) hxs) fun s₅ m₅ F₅ => ?_)
          simp only [Bool.and_true, Bool.and_eq_true, decide_eq_true_eq] at hb
          cases hk with
          | stop _ he => exact absurd hb.2 (he.elim (fun h => absurd h hb.1) id)
          | @go n _ _ _ _ _ hk' => exact wpAny_execs_nil ⟨n, Nat.lt_succ_self _, _, _, hk', m4.trans m₅, F₅, rfl⟩
        · cases hk with
          | stop _ _ => exact h1
          | go _ h2 h3 _ =>
            rw [decide_eq_true h2, decide_eq_true h3] at hb
            cases hb
    · obtain ⟨ρ, m₆, F₆, h1⟩ := h₆
      refine wpAny_execs_cons (F₆.ret (m₆.pos T) (F₆.ev (d := .str y) h1) fun v s' m' F' r' => ?_)
      obtain ⟨t', rfl⟩ := Rep.str_iff.mp r'
      exact ⟨_, rfl, fin s' t' (m₆.trans m') F'.keep⟩
end
end Mine

end

-- part V5
section
open PySem PySem.W PyProof.Rows
set_option Elab.async false
set_option linter.unusedVariables false
set_option maxRecDepth 100000
set_option pp.deepTerms false
set_option pp.maxSteps 1500
namespace Mine

abbrev tabOf (ps : Array Value) : Obj := { cls := .none, data := .fields ps }
def Bk2 (H : Heap) (ps : Array Value) (a : Addr) (x : Obj) : Prop := (H.get? a = some x ∧ a ≠ 16) ∨ (a = 16 ∧ x = tabOf ps)

section
variable {env : Env} {Z N₀ N : Addr → Prop} {ad : Str → Addr} {ρ : Vars} {ac : Accs} {h h' H : Heap} {ps ps' : Array Value}
theorem FSN.pin (F : FSN env (fun a o => H.get? a = some o) Z N₀ N ad ρ ac h) (h16 : H.get? 16 = some (tabOf ps)) : FSN env (Bk2 H ps) Z N₀ N ad ρ ac h :=
  F.guard (fun a o b => b.elim (fun b => F.keep a o b.1) fun b => by rw [b.1, b.2]; exact F.keep _ _ h16) fun a o b => b.elim (fun b => F.off a o b.1) fun b => by rw [b.1]; exact F.off _ _ h16
theorem FSN.re16 (F : FSN env (Bk2 H ps) Z N₀ N ad ρ ac h) (hf : env.func.isSome = true) (hN : ¬ N 16) (keep : ∀ b x, b ≠ 16 → h.get? b = some x → h'.get? b = some x) (h16 : h'.get? 16 = some (tabOf ps')) : FSN env (Bk2 H ps') Z N₀ N ad ρ ac h' := by
  have hM : ¬ Mut env ad ac 16 := F.off 16 (tabOf ps) (.inr ⟨rfl, rfl⟩)
  have F1 := F.less (Bk' := fun a o => H.get? a = some o ∧ a ≠ 16) fun a o b => .inl b
  have F2 := F1.extBut (I := 16) keep (fun _ x => x) hN F.sub (fun e => by rw [h16] at e; cases e) (fun o b => b.2 rfl) hM (fun c hc e => hM (.inr (.inl ⟨c, mem_mcells hf hc, e.symm⟩)))
  exact F2.guard (fun a o b => b.elim (F2.keep a o) fun b => by rw [b.1, b.2]; exact h16) fun a o b => b.elim (F2.off a o) fun b => by rw [b.1]; exact hM
theorem FSN.tab (F : FSN env (Bk2 H ps) Z N₀ N ad ρ ac h) {ps₀ : Array Value} {h₁ : Heap} (t : Tb 20 16 ps h₁) (h20 : ∀ o, h₁.get? 20 = some o → H.get? 20 = some o) : Tb 20 16 ps h :=
  t.of (fun o e => F.keep _ _ (.inl ⟨h20 o e, by decide⟩)) fun o e => by
    have := t.tab.2; rw [this] at e; cases e
    exact F.keep _ _ (.inr ⟨rfl, rfl⟩)
end

section
variable {prog : Program} {w : World} {A : Around} {N : Addr → Prop} {mg mb : Str → Option Value} {p : Params}

theorem c_platP {s : Shared} {vs : List Value} {xs : List Str} {y : Str} {ps : Array Value} {bm : Addr} {ob : Obj} (GMm : GM mg mb) (BM : BMod s.heap mainGlobals mg bm ob) (hbm : bm ≠ 16) (G : GE (hd.heap_39 p) mg mb s.heap) (rm : Rm A 2) (hN : New N s.heap) (hN16 : ¬ N 16) (T : 0 < s.toks)
    (tb : Tb 20 16 ps s.heap) (hfound : codeAmong gpos ps.toList ≠ none) (r : RepL N s.heap (xs.map .str) vs) (hp : Plat xs y) : Gives prog w A N (.str y) (call (.ref 21) vs) s := fun Q E q =>
  c_plat GMm BM hbm G rm hN hN16 T tb r hp fun s' t ps' keep tb' _ _ same m => by
    have e := same hfound
    subst e
    refine q _ s' ⟨fun b o h => ?_, m.gens, m.os, m.drawn, m.toks⟩ .str'
    by_cases hb : b = 16
    · subst hb
      rw [tb.tab.2] at h
      rw [← h]; exact tb'.tab.2
    · exact keep b o hb h

def pad1 (x : Str) : Str := Txt.mul " " (mn x.length 1) ++ x ++ Txt.mul "\n" (mn x.length 1)
def handedF (mark : Str) (texts : List Str) : List Str := if mark = "" then texts.map pad1 else [Txt.join (Txt.mul mark 3) texts]
inductive Rnd : Nat → Str → Nat → Str → Nat → Prop
  | stop {x : Str} {r : Nat} : (Txt.contains x "unknown" = false ∨ ¬ r < 9) → Rnd 0 x r x r
  | go {n : Nat} {x x' y : Str} {r k : Nat} : Txt.contains x "unknown" = true → r < 9 → Plat [x] x' → Rnd n x' (r + 1) y k → Rnd (n + 1) x r y k
structure Tidy (mark : Str) (texts : List Str) (name : Str) (rounds : Nat) : Prop where
  few : texts.length ≤ 4
  short : ∀ x ∈ texts, x.length ≤ 100
  mk1 : mark.length ≤ 1
  run : ∃ x0 n, Plat (handedF mark texts) x0 ∧ Rnd n x0 1 name rounds

theorem c_tidied {s : Shared} {vs : List Value} {texts : List Str} {mark name : Str} {rounds : Nat} {ps : Array Value} {bm : Addr} {ob : Obj} {Q : Value → Shared → Prop} {E : Value → Shared → Prop} (GMm : GM mg mb) (BM : BMod s.heap mainGlobals mg bm ob) (hbm : bm ≠ 16) (G : GE (hd.heap_39 p) mg mb s.heap) (rm : Rm A 3) (hN : New N s.heap) (hN16 : ¬ N 16) (T : 0 < s.toks)
    (tb : Tb 20 16 ps s.heap) (r : RepL N s.heap [.list (texts.map .str), .str mark] vs) (ht : Tidy mark texts name rounds)
    (q : ∀ v s' ps', (∀ b o, b ≠ 16 → s.heap.get? b = some o → s'.heap.get? b = some o) → Tb 20 16 ps' s'.heap → (∃ more, ps' = ps ++ more) → codeAmong gpos ps'.toList ≠ none → Sm s s' → Rep N s'.heap (dRes name rounds) v → Q v s') :
    wpAny (model prog w) A (call (.ref 69) vs) Q E s := by
  obtain ⟨hfew, hshort, hmk, x0, nn, hplat, hrnd⟩ := ht
  obtain ⟨v, v', rfl, _, _⟩ := r.two
  refine enterG (N := N) (ns := ["texts", "mark"]) (ds := [.list (texts.map .str), .str mark]) rm (G.k 69 _ rfl) rfl G.lim ⟨68, _, _, _, rfl, G.k 68 _ rfl, rfl, rfl⟩ rfl rfl hN T
    (fun Q E q => wpAny_pure (q [v, v'] _ (Gr.refl s) r)) rfl (by decide) (fun m x hx => ?_) (by decide) rfl fun s₀ L N' ad s₁ E' g₀ F m rm' => ?_
  · simp only [List.mem_cons, List.not_mem_nil, or_false] at hx
    rcases hx with rfl | rfl <;> exact .inl rfl
  have T₀ := g₀.sm.pos T
  have hN' : ¬ N' 16 := fun h => hN16 (F.sub _ h).1
  have h16 : s₀.heap.get? 16 = some (tabOf ps) := g₀.keep _ _ tb.tab.2
  refine seqW (fun s' => ∃ ρ, Sm s₀ s' ∧ F.at ρ [] s'.heap ∧ ρ "handed" = some (.list ((handedF mark texts).map .str))) ?_ fun s₂ h₂ => ?_
  · have G₁ : GE (hd.heap_39 p) mg mb s₁.heap := G.ext fun b o e => F.keep b o (g₀.keep b o e)
    refine F.ite (m.pos T₀) (.cmp (F.ev (d := .str mark) rfl) .str .eqS) (fun hb s₂ m₂ F₂ => ?_) fun hb s₂ m₂ F₂ => ?_
    · have e : mark = "" := of_decide_eq_true hb
      have G₂ : GE (hd.heap_39 p) mg mb s₂.heap := G.ext fun b o e => F₂.keep b o (g₀.keep b o e)
      refine wpAny_execs_cons (F₂.assignC ((m.trans m₂).pos T₀) (.inl rfl) (cl := []) (ρc := fun _ => none) (ds := texts.map .str) (out := (handedF mark texts).map .str) ⟨rfl, fun c hc => (by cases hc), rfl, by decide, by decide, fun x d e => (by cases e)⟩ (.list rm'.hh (F₂.ev (d := .list (texts.map .str)) rfl))
        ?_ fun s₃ m₃ F₃ => wpAny_execs_nil ⟨rfl, _, (m.trans m₂).trans m₃, F₃, rfl⟩)
      have hout : (handedF mark texts).map D.str = ((texts.map D.str).filter fun _ => true).map fun d => match d with | .str x => .str (pad1 x) | d => d := by
        rw [handedF, if_pos e, List.filter_eq_self.mpr (fun _ _ => rfl), List.map_map, List.map_map]; rfl
      rw [hout]
      refine .one (fun _ => true) _ (fun C => .name (.inl rfl)) (fun _ _ => trivial) (fun _ => rfl) (fun d ρ ρ' _ h => h.put _ _) (fun d ρ' _ h => h.skip _ rfl) (by rw [List.length_map, sizeLine_eq]; omega) ?_
      intro C Bk N ad ac s d hd' F X T
      refine ⟨.none, fun _ => ?_⟩
      obtain ⟨x, hx, rfl⟩ := List.mem_map.mp hd'
      have hxl := hshort x hx
      have Gx := G₂.ext X
      have hmin : ∀ (A' : Around), A'.handled = none → ∀ (s'' : Shared) vs, Ext s.heap s''.heap → 0 < s''.toks → RepL N s''.heap [.int x.length, .int 1] vs → Gives prog w A' N (.int (mn x.length 1)) (call (.builtin "min") vs) s'' := fun A' hA s'' vs X T' r' => .min2 hA r'
      have hlen : ∀ (A' : Around) (s'' : Shared) vs, Ext s.heap s''.heap → 0 < s''.toks → RepL N s''.heap [.str x] vs → Gives prog w A' N (.int x.length) (call (.builtin "len") vs) s'' := fun A' s'' vs X T' r' => .lenS r' (by rw [sizeLine_eq]; omega)
      have hmn : -1000 ≤ mn (x.length : Int) 1 ∧ mn (x.length : Int) 1 ≤ 1000 := by unfold mn; split <;> omega
      have hl1 : (Txt.mul (" " : Str) (mn (x.length : Int) 1)).length ≤ 1 := by
        rw [mul_len, show (" " : Str).length = 1 from by decide]; unfold mn; split <;> omega
      have hl2 : (Txt.mul ("\n" : Str) (mn (x.length : Int) 1)).length ≤ 1 := by
        rw [mul_len, show ("\n" : Str).length = 1 from by decide]; unfold mn; split <;> omega
      exact .addS (.addS (.mulS .str (.callB ⟨rfl, rfl, rfl⟩ Gx.gl rfl GMm.min.1 GMm.min.2 (.cons (.callB ⟨rfl, rfl, rfl⟩ Gx.gl rfl GMm.len.1 GMm.len.2 (.cons (F.ev (d := .str x) rfl) .nil) (hlen _)) (.cons .int .nil)) (hmin _ rm'.hh)) (mul_ok hmn.1 hmn.2 (by decide))) (F.ev (d := .str x) rfl) (by rw [sizeLine_eq]; omega))
        (.mulS .str (.callB ⟨rfl, rfl, rfl⟩ Gx.gl rfl GMm.min.1 GMm.min.2 (.cons (.callB ⟨rfl, rfl, rfl⟩ Gx.gl rfl GMm.len.1 GMm.len.2 (.cons (F.ev (d := .str x) rfl) .nil) (hlen _)) (.cons .int .nil)) (hmin _ rm'.hh)) (mul_ok hmn.1 hmn.2 (by decide))) (by rw [len_append, sizeLine_eq]; omega)
    · have e : ¬ mark = "" := of_decide_eq_false hb
      have hl3 : (Txt.mul mark 3).length ≤ 3 := by rw [mul_len]; simp; omega
      have hsum : (texts.map (·.length)).sum ≤ texts.length * 100 := sum_le texts 100 hshort
      refine wpAny_execs_cons (F₂.assign ((m.trans m₂).pos T₀) (.inl rfl) (.list F₂.new (.cons (.join (.mulS (F₂.ev (d := .str mark) rfl) .int (mul_ok (by omega) (by omega) (by omega))) (F₂.ev (d := .list (texts.map .str)) rfl) (joinOk_of ?_)) .nil) one_le) fun s₃ m₃ F₃ => ?_)
      · have : texts.length * (Txt.mul mark 3).length ≤ 4 * 3 := Nat.mul_le_mul hfew hl3
        omega
      · refine wpAny_execs_nil ⟨rfl, _, (m.trans m₂).trans m₃, F₃, ?_⟩
        rw [handedF, if_neg e]; rfl
  · obtain ⟨ρ, m₂, F₂, h1⟩ := h₂
    have X₂ : Ext s.heap s₂.heap := fun b o e => F₂.keep b o (g₀.keep b o e)
    have G₂ := G.ext X₂
    obtain ⟨va, Ha, Ra⟩ := F₂.vars "handed" _ h1
    obtain ⟨aa, us, n, rfl, _, hl, rl⟩ := Rep.list_iff.mp Ra
    refine wpAny_execs_cons (wpAny_Assign_Name (wpAny_Call_NameR (name_g ⟨rfl, rfl, rfl⟩ G₂.gl rfl GMm.platform (callWith_S G₂.k rfl ((Ha.load rfl (Ext.refl _) ?_))))) rfl)
    have hT' : s₂.TypeIs (.ref aa) "list" := ⟨_, hl, rfl⟩
    have hul : us.length ≤ 10 := by
      have := rl.length
      rw [List.length_map] at this
      have := hplat.few
      omega
    unfold StarOf notIterableAtAll
    refine wpAny_bind (wpAny_specialOf hT' PySem.F.slot_list_iter.lookup (wpAny_pure ⟨rfl, wpAny_collect_seq aa (.inl rfl) hl rfl rfl (fun h' hk => ?_) (by simp [sizeLine_eq]; omega)⟩))
    have X₃ : Ext s.heap h' := fun b o e => hk b o (X₂ b o e)
    have hN2 : New N' h' := fun a ha => F₂.new a (Ext.new hk ha)
    have m20 := g₀.sm.trans m₂
    refine ⟨G₂.k.keeps hk, c_plat (s := { s₂ with heap := h' }) (N := N') GMm (BM.keeps X₃) hbm (G.ext X₃) (rm'.le (by omega)) hN2 hN' (m₂.pos T₀) (tb.keeps X₃) (by simpa using rl.map fun b o hb e => ⟨hb, hk _ _ e⟩) hplat fun s₄ t ps' keep tb₄ hmore hfound _ m₄ => ?_⟩
    have F₄ := ((F₂.grow hk).pin h16).re16 rfl hN' keep tb₄.tab.2
    have m40 : Sm s₀ s₄ := Sm.trans m₂ ⟨m₄.gens, m₄.os, m₄.drawn, m₄.toks⟩
    refine F₄.store (d := .str x0) (.inl rfl) .str' fun s₅ m₅ F₅ _ => ?_
    refine wpAny_execs_cons (F₅.assign ((m40.trans m₅).pos T₀) (.inl rfl) .int fun s₆ m₆ F₆ => ?_)
    have m60 := (m40.trans m₅).trans m₆
    have h20 : ∀ o, s₄.heap.get? 20 = some o → s₀.heap.get? 20 = some o := fun o e => by
      obtain ⟨oc, hoc⟩ : ∃ o, s.heap.get? 20 = some o := ⟨_, G.k 20 _ rfl⟩
      rw [keep 20 oc (by decide) (X₃ _ _ hoc)] at e
      rw [g₀.keep _ _ hoc]; exact e
    have env16 : ∀ h, (∀ a o, Bk2 s₀.heap ps' a o → h.get? a = some o) → GE (hd.heap_39 p) mg mb h ∧ BMod h mainGlobals mg bm ob ∧ Tb 20 16 ps' h ∧ ∀ b o, b ≠ 16 → s.heap.get? b = some o → h.get? b = some o := fun h k' => by
      have kS : ∀ b o, b ≠ 16 → s.heap.get? b = some o → h.get? b = some o := fun b o hb e => k' b o (.inl ⟨g₀.keep b o e, hb⟩)
      refine ⟨⟨fun a o e => ?_, ⟨G.gl.g.at' fun o e => kS _ o (by decide) e, G.gl.b.at' fun o e => kS _ o (by decide) e⟩, G.lim.at fun o e => kS _ o (by decide) e⟩, ⟨BM.ns.at' fun o e => kS _ o (by decide) e, BM.name, BM.ne, kS _ _ hbm BM.obj, BM.cls, BM.dict, BM.data⟩,
        tb₄.of (fun o e => k' 20 o (.inl ⟨h20 o e, by decide⟩)) (fun o e => ?_), kS⟩
      · by_cases ha : a = 16
        · subst ha; exact absurd e (by rw [show (hd.heap_39 p).lookup 16 = none from rfl]; exact fun h => nomatch h)
        · exact kS a o ha (G.k a o e)
      · rw [tb₄.tab.2] at e; cases e
        exact k' 16 _ (.inr ⟨rfl, rfl⟩)
    refine seqW (fun s' => ∃ ρ, Sm s₀ s' ∧ F₆.at ρ [] s'.heap ∧ ρ "name" = some (.str name) ∧ ρ "rounds" = some (.int rounds)) ?_ fun s₇ h₇ => ?_
    · refine While_of (fun k s' => ∃ (x : Str) (j : Nat) (ρ : Vars), Rnd k x j name rounds ∧ Sm s₀ s' ∧ F₆.at ρ [] s'.heap ∧ ρ "name" = some (.str x) ∧ ρ "rounds" = some (.int j)) nn ?_ fun k s' hI => ?_
      · exact ⟨x0, 1, _, hrnd, m60, F₆, rfl, rfl⟩
      · obtain ⟨x, j, ρ, hk, m', F', h1, h2⟩ := hI
        refine ⟨m'.pos T₀, _, Tr.of_all (.and_cons (.cmp .str (F'.ev (d := .str x) h1) .inS) fun _ => .and_cons (.cmp (F'.ev (d := .int (j : Int)) h2) .int .ltI) fun _ => .and_nil), fun hb s₈ E'' g => ?_, fun hb s₈ g => ⟨rfl, ρ, m'.trans g.sm, F'.grow g.keep, ?_⟩⟩
        · have m8 := m'.trans g.sm
          have F₈ := F'.grow g.keep
          obtain ⟨G₈, BM₈, tb₈, _⟩ := env16 s₈.heap F₈.keep
          simp only [Bool.and_true, Bool.and_eq_true, decide_eq_true_eq] at hb
          cases hk with
          | stop he =>
            rcases he with he | he
            · rw [he] at hb; exact absurd hb.1 Bool.false_ne_true
            · exact absurd hb.2 (by omega)
          | @go n _ x' _ _ _ hc hj hp hk' =>
            refine wpAny_execs_cons (F₈.assign (m8.pos T₀) (.inl rfl) (d := .str x') (.callF ⟨rfl, rfl, rfl⟩ G₈.gl rfl GMm.platform (G₈.k 21 _ rfl) rfl (.cons (F₈.ev (d := .str x) h1) .nil)
              fun s'' vs X T' r' => c_platP (xs := [x]) GMm (BM₈.keeps X) hbm (G₈.ext X) (rm'.le (by omega)) (F₈.grow X).new hN' T' (tb₈.keeps X) hfound r' hp) fun s₉ m₉ F₉ => ?_)
            have m9 := m8.trans m₉
            refine wpAny_execs_cons (F₉.assign (m9.pos T₀) (.inl rfl) (.addI (F₉.ev (x := "rounds") (d := .int (j : Int)) h2) .int) fun s₁₀ m₁₀ F₁₀ => ?_)
            exact wpAny_execs_nil ⟨n, Nat.lt_succ_self _, x', j + 1, _, hk', m9.trans m₁₀, F₁₀, rfl, rfl⟩
        · cases hk with
          | stop _ => exact ⟨h1, h2⟩
          | go hc hj _ _ =>
            rw [hc, decide_eq_true (show (j : Int) < 9 by omega)] at hb
            cases hb
    · obtain ⟨ρ, m₇, F₇, h1, h2⟩ := h₇
      refine wpAny_execs_cons (F₇.ret (m₇.pos T₀) (.tup F₇.new (.cons (F₇.ev h1) (.cons (F₇.ev h2) .nil)) two_le) fun v s' m' F' r' => ?_)
      obtain ⟨_, _, tb', keep'⟩ := env16 s'.heap F'.keep
      exact ⟨v, rfl, q v s' ps' keep' tb' hmore hfound (g₀.sm.trans (m₇.trans m')) (r'.map fun b o hb e => ⟨(F'.sub b hb).1, e⟩)⟩
end
end Mine

end

-- part V6
section
open PySem PySem.W PyProof.Rows
set_option Elab.async false
set_option linter.unusedVariables false
set_option maxRecDepth 100000
set_option pp.deepTerms false
set_option pp.maxSteps 1500
namespace Mine

def Bk3 (Wk : Addr → Obj → Prop) (H : Heap) (ps : Array Value) (a : Addr) (x : Obj) : Prop := (H.get? a = some x ∧ a ≠ 16) ∨ Wk a x ∨ (a = 16 ∧ x = tabOf ps)
section
variable {env : Env} {Z N₀ N : Addr → Prop} {ad : Str → Addr} {ρ : Vars} {ac : Accs} {h h' H : Heap} {ps ps' : Array Value} {Wk : Addr → Obj → Prop}
theorem FSN.pin3 (F : FSN env (fun a o => H.get? a = some o) Z N₀ N ad ρ ac h) (h16 : H.get? 16 = some (tabOf ps)) : FSN env (Bk3 (fun _ _ => False) H ps) Z N₀ N ad ρ ac h :=
  (F.pin h16).less fun a o b => b.elim .inl fun b => b.elim (fun b => b.elim) .inr
theorem FSN.re163 (F : FSN env (Bk3 Wk H ps) Z N₀ N ad ρ ac h) (hW : ∀ a o, Wk a o → a ≠ 16) (hf : env.func.isSome = true) (hN : ¬ N 16) (keep : ∀ b x, b ≠ 16 → h.get? b = some x → h'.get? b = some x) (h16 : h'.get? 16 = some (tabOf ps')) : FSN env (Bk3 Wk H ps') Z N₀ N ad ρ ac h' := by
  have hM : ¬ Mut env ad ac 16 := F.off 16 (tabOf ps) (.inr (.inr ⟨rfl, rfl⟩))
  have F1 := F.less (Bk' := fun a o => (H.get? a = some o ∧ a ≠ 16) ∨ Wk a o) fun a o b => b.elim .inl fun b => .inr (.inl b)
  have F2 := F1.extBut (I := 16) keep (fun _ x => x) hN F.sub (fun e => by rw [h16] at e; cases e) (fun o b => b.elim (fun b => b.2 rfl) fun b => hW _ _ b rfl) hM (fun c hc e => hM (.inr (.inl ⟨c, mem_mcells hf hc, e.symm⟩)))
  refine F2.guard (fun a o b => ?_) fun a o b => ?_
  · rcases b with b | b | b
    · exact F2.keep a o (.inl b)
    · exact F2.keep a o (.inr b)
    · rw [b.1, b.2]; exact h16
  · rcases b with b | b | b
    · exact F2.off a o (.inl b)
    · exact F2.off a o (.inr b)
    · rw [b.1]; exact hM
end

section
variable {prog : Program} {w : World} {A : Around} {env : Env} {Z N₀ N : Addr → Prop} {ad : Str → Addr} {ρ : Vars} {ac : Accs} {I : Addr} {S : Nat → Heap → Prop} {T : Bool} {ds : List D} {s : Shared} {H : Heap} {ps : Array Value} {Wk : Addr → Obj → Prop}
theorem Walk.turnI {k : Nat} {d : D} {Q : Option Value → Shared → Prop} {E : Value → Shared → Prop} (W : Walk prog w A (fun a => N a ∧ a ≠ I) T I ds S) (hN16 : ¬ N 16) (hI16 : I ≠ 16) (hB : ∀ o, ¬ Bk3 Wk H ps I o) (hcc : ∀ c ∈ env.cells, c.2 ≠ I) (hd : ds[k]? = some d)
    (L : LI env (Bk3 Wk H ps) Z N₀ N ad I S k ρ ac s.heap) (hT : 0 < s.toks)
    (q : ∀ v s₁ Wk', Sm s s₁ → FSN env (Bk3 Wk' H ps) Z N₀ (fun a => N a ∧ a ≠ I) ad ρ ac s₁.heap → Rep (fun a => N a ∧ a ≠ I) s₁.heap d v → S (k + 1) s₁.heap → (∀ a o, Wk' a o → a ≠ 16) → (∀ a o, Wk a o → Wk' a o) →
      (∀ ps' h' ρ' ac', FSN env (Bk3 Wk' H ps') Z N₀ (fun a => N a ∧ a ≠ I) ad ρ' ac' h' → LI env (Bk3 Wk H ps') Z N₀ N ad I S (k + 1) ρ' ac' h') → Q (some v) s₁) (hW : ∀ a o, Wk a o → a ≠ 16 := by assumption) : wpAny (model prog w) A (pyNext (.ref I)) Q E s := by
  refine W.item k d s Q E hd L.s hT fun v s₁ m r st he => ?_
  have F₁ := L.f.extBut he (fun _ x => x) (fun x => x.2 rfl) L.f.sub (fun e => absurd e (W.live _ _ st)) hB L.m hcc
  obtain ⟨oI, hoI⟩ : ∃ o, s₁.heap.get? I = some o := by
    cases e : s₁.heap.get? I with
    | none => exact absurd e (W.live _ _ st)
    | some o => exact ⟨o, rfl⟩
  have F₂ : FSN env (Bk3 (fun a o => Wk a o ∨ ((a = I ∨ (N a ∧ a ≠ I)) ∧ s₁.heap.get? a = some o)) H ps) Z N₀ (fun a => N a ∧ a ≠ I) ad ρ ac s₁.heap := F₁.guard (fun a o b => by
    rcases b with b | (b | b) | b
    · exact F₁.keep a o (.inl b)
    · exact F₁.keep a o (.inr (.inl b))
    · exact b.2
    · exact F₁.keep a o (.inr (.inr b))) fun a o b => by
    rcases b with b | (b | ⟨rfl | hb, _⟩) | b
    · exact F₁.off a o (.inl b)
    · exact F₁.off a o (.inr (.inl b))
    · exact L.m
    · exact (F₁.sub a hb).2.2
    · exact F₁.off a o (.inr (.inr b))
  refine q v s₁ _ m F₂ r st (fun a o b => ?_) (fun a o b => .inl b) fun ps' h' ρ' ac' F' => ⟨F'.less fun a o b => ?_, W.frame _ _ _ st fun b o hb e => F'.keep b o (.inr (.inl (.inr ⟨hb, e⟩))), F'.off I oI (.inr (.inl (.inr ⟨.inl rfl, hoI⟩)))⟩
  · rcases b with b | ⟨rfl | hb, _⟩
    · exact hW a o b
    · exact hI16
    · exact fun e => hN16 (e ▸ hb.1)
  · rcases b with b | b | b
    · exact .inl b
    · exact .inr (.inl (.inl b))
    · exact .inr (.inr b)

/-- the loop over data in which the table of code may grow -/
theorem FSN.forDi {t it : Expr} {body : List Stmt} {p : Pos} {Q : Flow → Shared → Prop} {E : Value → Shared → Prop} {ok : D → Prop} {up : D → Vars → Vars} {dl : Accs → Accs} (F : FSN env (Bk3 Wk H ps) Z N₀ N ad ρ ac s.heap) (hW : ∀ a o, Wk a o → a ≠ 16) (hN16 : ¬ N 16) (hl16 : s.heap.get? 16 ≠ none) 
    (P : Shared → Prop) (hP : ∀ a b, P a → Sm a b → P b) (hP0 : ∀ a, P a → 0 < a.toks) (p0 : P s)
    (hI : EvIt prog w A N env s.heap T it ds) (ht : Tgt prog w A env t T ok up dl) (hok : ∀ d ∈ ds, ok d) (Inv : Nat → Array Value → Vars → Accs → Prop) (i0 : Inv 0 ps ρ ac)
    (hnm : ∀ k ps' ρ' ac', Inv k ps' ρ' ac' → ∀ e ∈ ac', ∃ f ∈ ac, f.1 = e.1)
    (hbody : ∀ k d ps' ρ' ac' Wk' N' s' E', ds[k]? = some d → Inv k ps' ρ' ac' → (∀ a, N' a → N a) → (∀ a o, Wk' a o → a ≠ 16) → (∀ a o, Wk a o → Wk' a o) → FSN env (Bk3 Wk' H ps') Z N₀ N' ad (up d ρ') (dl ac') s'.heap → P s' →
      wpAny (model prog w) A (execs body env) (fun f s₃ => (f = .next ∨ f = .cont) ∧ P s₃ ∧ ∃ ps₃ ρ₃ ac₃, FSN env (Bk3 Wk' H ps₃) Z N₀ N' ad ρ₃ ac₃ s₃.heap ∧ Inv (k + 1) ps₃ ρ₃ ac₃) E' s')
    (q : ∀ s' ps' ρ' ac', P s' → FSN env (Bk3 Wk H ps') Z N₀ N ad ρ' ac' s'.heap → Inv ds.length ps' ρ' ac' → Q .next s') (hs : ∀ x, foldedSetIterable it env x = pure x := by intro _; rfl) :
    wpAny (model prog w) A (exec (.For t it body [] p) env) Q E s := by
  refine wpAny_For (hI s _ _ (Ext.refl _) (hP0 _ p0) fun I s₁ g hnI hlI hW => ?_) hs
  obtain ⟨S, W, hS⟩ := hW (fun a => N a ∧ a ≠ I) fun b o hb hne _ => ⟨hb, hne⟩
  have L0 := LI.start (N := N) F g.keep hnI hS hlI
  have hI16 : I ≠ 16 := fun e => hl16 (e ▸ hnI)
  have hB : ∀ ps' o, ¬ Bk3 Wk H ps' I o := fun ps' o b => by
    rcases b with b | b | b
    · exact F.notBk_none hnI o (.inl b)
    · exact F.notBk_none hnI o (.inr (.inl b))
    · exact hI16 b.1
  have hcc := F.notCell_none hnI
  refine codeAny_forLoop_any (fun n s' => ∃ k ps' ρ' ac', n = ds.length - k ∧ k ≤ ds.length ∧ P s' ∧ Inv k ps' ρ' ac' ∧ LI env (Bk3 Wk H ps') Z N₀ N ad I S k ρ' ac' s'.heap) ?_ ds.length ⟨0, ps, ρ, ac, rfl, Nat.zero_le _, hP _ _ p0 g.sm, i0, L0⟩
  rintro n s' ⟨k, ps', ρ', ac', rfl, hk, hp, hi, L⟩
  by_cases hlt : k < ds.length
  · have hd : ds[k]? = some ds[k] := List.getElem?_eq_getElem hlt
    refine W.turnI hN16 hI16 (hB ps') hcc hd L (hP0 _ hp) fun v s₂ Wk' m F₂ r st hW16 hbk back => ?_
    have cont : wpAny (model prog w) A (PySem.assign t env v) (fun _ s₂ => wpAny (model prog w) A (execs body env) (fun f s₃ => match f with
          | .next | .cont => ∃ m, m < ds.length - k ∧ ∃ k' ps' ρ' ac', m = ds.length - k' ∧ k' ≤ ds.length ∧ P s₃ ∧ Inv k' ps' ρ' ac' ∧ LI env (Bk3 Wk H ps') Z N₀ N ad I S k' ρ' ac' s₃.heap
          | .brk => Q .next s₃
          | .ret v => Q (.ret v) s₃) (notedBy (model prog w) A env fun e s' => cameBackBy (model prog w) A env E e s') s₂) (notedBy (model prog w) A env fun e s' => cameBackBy (model prog w) A env E e s') s₂ := by
      refine ht.set _ _ (hok _ (List.getElem_mem hlt)) F₂ (m.pos (hP0 _ hp)) r fun s₃ m₃ F₃ => ?_
      refine wpAny_mono (hbody k _ ps' ρ' ac' Wk' _ s₃ _ hd hi (fun a x => x.1) hW16 hbk F₃ (hP _ _ hp (m.trans m₃))) (fun f s₄ h₄ => ?_) fun _ _ x => x
      obtain ⟨hf, hp₄, ps₄, ρ₄, ac₄, F₄, i₄⟩ := h₄
      have fin : ∃ m, m < ds.length - k ∧ ∃ k' ps' ρ' ac', m = ds.length - k' ∧ k' ≤ ds.length ∧ P s₄ ∧ Inv k' ps' ρ' ac' ∧ LI env (Bk3 Wk H ps') Z N₀ N ad I S k' ρ' ac' s₄.heap := ⟨ds.length - (k + 1), by omega, k + 1, ps₄, ρ₄, ac₄, rfl, hlt, hp₄, i₄, back _ _ _ _ F₄⟩
      rcases hf with rfl | rfl <;> exact fin
    show wpAny (model prog w) A (letOwnedTupleGo t (.ref I) v) _ _ s₂
    rcases ht.go with hgo | ⟨hTT, href, elts, c, p, rfl⟩
    · exact wpAny_of_eq (hgo _ _) cont
    · obtain ⟨a, rfl⟩ := href _ _ _ _ (hok _ (List.getElem_mem hlt)) r
      exact W.go (k + 1) s₂ _ _ _ _ _ _ hTT st cont
  · have hke : k = ds.length := by omega
    subst hke
    refine W.last (hB ps') hcc (F.new I hnI) L (fun a ha => ⟨(F.sub a ha).1, (F.sub a ha).2.1, fun hM => (F.sub a ha).2.2 ?_⟩) fun s₂ m F₂ => wpAny_execs_nil (q s₂ ps' ρ' ac' (hP _ _ hp m) F₂ hi)
    rcases hM with e | e | ⟨e, he, e'⟩
    · exact .inl e
    · exact .inr (.inl e)
    · obtain ⟨f, hf, e1⟩ := hnm _ _ _ _ hi e he
      exact .inr (.inr ⟨f, hf, by rw [e1]; exact e'⟩)

end
end Mine

end

-- part V7
section
open PySem PySem.W PyProof.Rows
set_option Elab.async false
set_option linter.unusedVariables false
set_option maxRecDepth 100000
set_option pp.deepTerms false
set_option pp.maxSteps 1500
namespace Mine
section
variable {M : Model} {A : Around} {E : Value → Shared → Prop} {s : Shared}
theorem newEnv_one {scope : Scope} {globals : Addr} {x : Str} {v : Value} {qual : Str} {func : Option Addr} {code : Value} {builtins : Addr} {Q : Env → Shared → Prop} (hk : scope.kind = .function) (hl : scope.names.lookup x = some .local)
    (hQ : ∀ env, env = newEnv scope s.heap.objs.size globals (cellsFrom (s.heap.objs.size + 1) scope.names []) qual func code none builtins →
      ∀ s', s.toks + 1 ≤ s'.toks → InCallC s env.locals (bindL env.kindOf [(x, v)] fun _ => none) env.cells (bindC env.kindOf [(x, v)] fun _ => none) s' → Q env s') :
    wpAny M A (newFunctionEnv scope globals [] [(x, v)] qual func code none builtins) Q E s := by
  simp only [newFunctionEnv, Option.isSome_none, Bool.false_eq_true, if_false]
  refine wpAny_bind (wpAny_alloc ?_)
  refine wpAny_bind (wpAny_layCells _ (fun name kind cells => by cases hkc : kind == NameKind.cell <;> simp [hkc]) _ _ _ _ ?_)
  have ok := cellsFrom_ok scope.names (s.heap.push { cls := .type "frame", data := .dict #[] }) (s.heap.objs.size + 1) [] ⟨fun _ _ hm => (nomatch hm), List.Pairwise.nil⟩ (by rw [Heap.size_push]; exact Nat.le_refl _)
  rw [Heap.size_push] at ok
  rw [show ({ s with heap := s.heap.push { cls := .type "frame", data := .dict #[] } } : Shared).heap.objs.size = s.heap.objs.size + 1 from Heap.size_push ..]
  have I0 : InCallC s (newEnv scope s.heap.objs.size globals (cellsFrom (s.heap.objs.size + 1) scope.names []) qual func code none builtins).locals (fun _ => none) (newEnv scope s.heap.objs.size globals (cellsFrom (s.heap.objs.size + 1) scope.names []) qual func code none builtins).cells (fun _ => none)
      { s with heap := pushCells (s.heap.push { cls := .type "frame", data := .dict #[] }) scope.names } :=
    ⟨⟨⟨_, _, rfl⟩, (Heap.Ns.new s.heap (.type "frame")).keeps (pushCells_keeps _ _), fun b o e => pushCells_keeps _ _ b o (Heap.get?_push_of_some _ e), Nat.le_refl _⟩,
      fun n c hc => (ok.empty n c (mem_of_lookup hc)).1, ok.apart, fun n c hm => (ok.empty n c hm).2⟩
  rw [List.forIn_cons]
  refine wpAny_bind (wpAny_bind (wpAny_bind (wpAny_storeName_local (env := newEnv scope s.heap.objs.size globals (cellsFrom (s.heap.objs.size + 1) scope.names []) qual func code none builtins) hl I0.toInCall.ns (fun h' hn' hs' => wpAny_pure ?_) (by show (scope.kind == .class || (scope.kind == .module && _)) = false; rw [hk]; rfl))))
  dsimp only
  rw [List.forIn_nil]
  refine wpAny_pure (wpAny_pure (hQ _ rfl _ (Nat.le_refl _) ?_))
  have hb : bindL (newEnv scope s.heap.objs.size globals (cellsFrom (s.heap.objs.size + 1) scope.names []) qual func code none builtins).kindOf [(x, v)] (fun _ => none) = fun y => if y = x then some v else none := by
    unfold bindL bindL; exact if_pos hl
  have hc : bindC (newEnv scope s.heap.objs.size globals (cellsFrom (s.heap.objs.size + 1) scope.names []) qual func code none builtins).kindOf [(x, v)] (fun _ => none) = fun _ => none := by
    unfold bindC bindC; exact if_pos hl
  rw [hb, hc]
  refine ⟨⟨⟨h', _, rfl⟩, hn', fun b o e => ?_, I0.toInCall.fresh⟩, fun k c hk' => ?_, I0.apart, I0.above⟩
  · exact hs'.extBut b o (Nat.ne_of_lt (Nat.lt_of_lt_of_le (Heap.lt_size e) I0.toInCall.fresh)) (I0.toInCall.keep b o e)
  · exact (I0.cell k c hk').sameBut hs' (Nat.ne_of_gt (I0.above k c (mem_of_lookup hk')))
end
section
variable {prog : Program} {w : World} {A : Around} {N : Addr → Prop}

/-- a call of a def: one parameter, and a token more -/
theorem enterG1 {s : Shared} {a : Addr} {o : Obj} {fd : FuncData} {body : List Stmt} {vs : List Value} {x : Str} {d : D} {n : Nat} {Q : Value → Shared → Prop} {E : Value → Shared → Prop} (rm : Rm A (n + 1)) (ho : s.heap.get? a = some o) (hdata : o.data = .func fd) (hlim : s.heap.NoLimit)
    (hcd : s.heap.CodeRec fd.code fd.qualname) (hbody : fd.body = .stmts body) (hclo : fd.closure = []) (hN : New N s.heap) (hbind : ∀ (Q : List (Str × Value) → Shared → Prop) (E : Value → Shared → Prop), (∀ us s₁, Gr s s₁ → RepL N s₁.heap [d] us → Q (([x] : List Str).zip us) s₁) → wpAny (model prog w) A.in1 (bindArgs fd ⟨vs, []⟩) Q E s) (hloc : fd.scope.names.lookup x = some .local)
    (hcn : ((cellsFrom 0 fd.scope.names []).map (·.1)).Nodup) (hk : fd.scope.kind = .function)
    (h : ∀ s₀ L N' ad s₁ E', Gr s s₀ → FSN (callEnvC fd L a) (fun a o => s₀.heap.get? a = some o) (fun _ => False) N N' ad (Vars.of (([x] : List Str).zip [d])) [] s₁.heap → Sm s₀ s₁ → 0 < s₁.toks → Rm (A.deeper (callEnvC fd L a)) n →
      wpAny (model prog w) (A.deeper (callEnvC fd L a)) (execs body (callEnvC fd L a)) (fun f s' => ∃ v, f = .ret v ∧ Q v s') E' s₁)
    (hco : fd.scope.isCoroutine = false := by rfl) (hgen : fd.scope.isGenerator = false := by rfl) :
    wpAny (model prog w) A (call (.ref a) vs) Q E s := by
  refine wpAny_call (codeAny_call_function rm.room ho hdata hco hgen hbody hcd ?_)
  rw [hclo]
  refine hbind _ _ fun vs s₀ g₀ r => ?_
  obtain ⟨v0, rfl, r0⟩ := r.one
  replace hlim := hlim.keeps g₀.keep
  replace hN : New N s₀.heap := fun a ha => hN a (Ext.new g₀.keep ha)
  refine newEnv_one hk hloc fun env he s₁ hle y => ?_
  subst he
  refine ⟨hlim.keeps y.toInCall.keep, codeAny_func ?_⟩
  generalize hLe : s₀.heap.objs.size = L at y ⊢
  replace y : InCallC s₀ (callEnvC fd L a).locals (bindL (callEnvC fd L a).kindOf [(x, v0)] fun _ => none) (callEnvC fd L a).cells (bindC (callEnvC fd L a).kindOf [(x, v0)] fun _ => none) s₁ := y
  show wpAny (model prog w) (A.deeper (callEnvC fd L a)) (execs body (callEnvC fd L a)) _ _ s₁
  have hsame := y.toInCall.same
  have hns := y.toInCall.ns
  have keep := y.toInCall.keep
  have hbel : ∀ b o, s₀.heap.get? b = some o → b < L := fun b o e => hLe ▸ Heap.lt_size e
  have hmem : ∀ c ∈ (callEnvC fd L a).cells, (callEnvC fd L a).cells.lookup c.1 = some c.2 := fun c hc => by
    refine lookup_of_mem_nodup ?_ hc
    show ((cellsFrom (L + 1) fd.scope.names []).map (·.1)).Nodup
    rw [cellsFrom_names fd.scope.names (L + 1) 0 [] [] rfl]; exact hcn
  have hce : ∀ c ∈ (callEnvC fd L a).cells, ∃ v, s₁.heap.IsCell c.2 v := fun c hc => ⟨_, y.cell _ _ (hmem c hc)⟩
  have habove : ∀ c ∈ (callEnvC fd L a).cells, L < c.2 := fun c hc => y.above c.1 c.2 hc
  have hm : mcells (callEnvC fd L a) = (callEnvC fd L a).cells := by unfold mcells; exact if_pos rfl
  have hL : (callEnvC fd L a).locals = L := rfl
  have notMut : ∀ b o, s₀.heap.get? b = some o → ¬ Mut (callEnvC fd L a) (fun _ => 0) [] b := fun b o e hM => by
    have hb := hbel b o e
    rcases hM with e | ⟨c, hc, e⟩ | ⟨e, he, _⟩
    · rw [hL] at e; exact absurd hb (by rw [e]; exact Nat.lt_irrefl _)
    · rw [hm] at hc; have := habove c hc; rw [← e] at this; exact absurd hb (Nat.not_lt.mpr (Nat.le_of_lt this))
    · cases he
  have live : ∀ b, Mut (callEnvC fd L a) (fun _ => 0) [] b → s₁.heap.get? b ≠ none := fun b hM e => by
    rcases hM with e' | ⟨c, hc, e'⟩ | ⟨e, he, _⟩
    · obtain ⟨o, _, _, ho, _⟩ := hns; rw [e'] at e; rw [show s₁.heap.get? _ = some o from ho] at e; cases e
    · rw [hm] at hc; obtain ⟨v, o, ho, _⟩ := hce c hc; rw [e', ho] at e; cases e
    · cases he
  have FS : FSN (callEnvC fd L a) (fun a o => s₀.heap.get? a = some o) (fun _ => False) N (fun b => N b ∧ ¬ Mut (callEnvC fd L a) (fun _ => 0) [] b) (fun _ => 0) (Vars.of (([x] : List Str).zip [d])) [] s₁.heap := by
    refine ⟨hk, fun b hb => ⟨hb.1, id, hb.2⟩, fun b hb => ⟨hN b (Ext.new keep hb), fun hM => live b hM hb⟩, keep, notMut, ⟨_, hns⟩, hce, by rw [hm]; exact y.apart, fun c hc => ?_, fun z d' e => ?_, fun e he => (by cases he), fun e he => (by cases he), fun e he => (by cases he), fun e he => (by cases he), fun e he => (by cases he)⟩
    · rw [hL]; exact Nat.ne_of_gt (habove c hc)
    · obtain ⟨rfl, rfl⟩ := of_one e
      exact ⟨v0, .loc hloc hns ((bind_at (kf := (callEnvC fd L a).kindOf) (cm := fun _ => none) (by simp) (by simp)).1 hloc), r0.map fun b o hb e => ⟨⟨hb, notMut b o e⟩, keep b o e⟩⟩
  refine wpAny_mono (h s₀ L _ _ s₁ _ g₀ FS ?_ (Nat.lt_of_lt_of_le (Nat.succ_pos _) hle) (rm.deeper _)) (fun f s' hf => ?_) fun _ _ e => e
  · obtain ⟨h₁, tk, rfl⟩ := hsame
    exact ⟨.refl _, rfl, rfl, Nat.le_of_succ_le hle⟩
  · obtain ⟨v, rfl, hq⟩ := hf
    exact hq

end
end Mine

end

-- part W6
section
open PySem PySem.W PyProof.Rows
set_option Elab.async false
set_option linter.unusedVariables false
set_option maxRecDepth 100000
set_option pp.deepTerms false
set_option pp.maxSteps 1500
namespace Mine

def lackF (st : List Int) (o : List Nat) : Int := ((lineF st o).1 : Int) + st.sum
def heapSum (st : List Int) (h : List Nat) : Int × Int := ((h.map fun k => mx (0 - st.getD k 0) 0).sum, (h.map fun k => mx (st.getD k 0) 0).sum)
def sumsF (st : List Int) (w : List (List Nat)) : List (Int × Int) := w.map (heapSum st)
def textOf (pt : Int × Int) : Str := blankF (Txt.mul "un" pt.1 ++ Txt.mul "known" pt.2)
def textsF (sums : List (Int × Int)) : List Str := sums.map textOf
def markOf (turn : Int) : Str := if turn.fmod 2 = 1 then Txt.item "/\\:;\"()-" ((turn.fdiv 2).fmod 8) else ""
def countF (w : List (List Nat)) : Int := w.foldl (fun c h => c * ([1, 1, 2, 6] : List Int).getD (h.length - 1) 0) 1
def ringOf (st : List Int) (turn : Int) (w : List (List Nat)) : List Int := List.replicate (countF w).toNat (Txt.count (dueName (endsF (markOf turn) (sumsF st w))) "known")
def ringsUpto (st : List Int) (turn : Int) (k : Nat) : List Int := (List.range k).flatMap fun (i : Nat) => ringOf st (turn + (i : Int)) ((waysAt 4).getD i [])
def wordF (st : List Int) : Str := Txt.join "" (st.map fun x => Txt.mul "un" (mx (0 - x) 0) ++ Txt.mul "known" (mx x 0))
def lastName (st : List Int) : Str := Txt.mul "known" (((lineF st [0, 1, 2, 3]).1 : Int) + st.sum) ++ Txt.mul "un" (((lineF st [0, 1, 2, 3]).1 : Nat) : Int)
def tailF (name : Str) : Str := "x__\tY.+@" ++ Txt.mul "-" (mn name.length 1) ++ name

structure LawFacts (st : List Int) (turn : Int) : Prop where
  len : st.length = 4
  rng : ∀ x ∈ st, -3 ≤ x ∧ x ≤ 3
  find : ∀ f b, f ≤ 12 → b ≤ 12 → Txt.find (padded f b) inkS = (f : Int)
  bal : ∀ o ∈ ordersAt 4, (lineF st o).1 ≤ 12 ∧ (lineF st o).2 ≤ 12 ∧ ((lineF st o).2 : Int) = 12 - lackF st o
  tidy : ∀ (i : Nat) w, (waysAt 4)[i]? = some w → ∃ r : Nat, Tidy (markOf (turn + i)) (textsF (sumsF st w)) (dueName (endsF (markOf (turn + i)) (sumsF st w))) r ∧ (r : Int) = roundsF (sumsF st w)
  small : ∀ w ∈ waysAt 4, ∀ pt ∈ sumsF st w, (0 ≤ pt.1 ∧ pt.1 ≤ 12) ∧ 0 ≤ pt.2 ∧ pt.2 ≤ 12
  spitz : ((ordersAt 4).map (lackF st)).Perm (ringsUpto st turn 15)
  word : ∃ (r : Nat) (mm : Int), Tidy "" [wordF st] (lastName st) r ∧ mm ∈ fallL (frontsAt st 4) ∧ (∀ a ∈ fallL (frontsAt st 4), a ≤ mm) ∧ (r : Int) = mx mm 1
  p1 : Plat [padded (lineF st [0, 1, 2, 3]).1 (lineF st [0, 1, 2, 3]).2, lastName st] (tailF (lastName st))
  p2 : Plat [" ", padded (lineF st [0, 1, 2, 3]).1 (lineF st [0, 1, 2, 3]).2, lastName st] ("-" ++ tailF (lastName st))
  p3 : Plat ["unknown", padded (lineF st [0, 1, 2, 3]).1 (lineF st [0, 1, 2, 3]).2, lastName st] ("-" ++ tailF (lastName st))
  p4 : Plat [blankF "Unknown", padded (lineF st [0, 1, 2, 3]).1 (lineF st [0, 1, 2, 3]).2, lastName st] ("Unknown-" ++ tailF (lastName st))

section
variable {prog : Program} {w : World} {A : Around} {N : Addr → Prop} {mg mb : Str → Option Value} {p : Params}

theorem map_get {α : Type} {l : List α} {f : α → D} {k : Nat} {d : D} (h : (l.map f)[k]? = some d) : ∃ a, l[k]? = some a ∧ d = f a := by
  rw [List.getElem?_map] at h
  cases e : l[k]? with
  | none => rw [e] at h; cases h
  | some a => rw [e] at h; cases h; exact ⟨a, rfl, rfl⟩
theorem orders_lt (o : List Nat) (h : o ∈ ordersAt 4) : ∀ k ∈ o, k < 4 := by
  have : ∀ o ∈ ordersAt 4, ∀ k ∈ o, k < 4 := by decide
  exact this o h

theorem env3 {H h : Heap} {ps : Array Value} {Wk : Addr → Obj → Prop} {bm : Addr} {ob : Obj} (G : GE (hd.heap_39 p) mg mb H) (BM : BMod H mainGlobals mg bm ob) (hbm : bm ≠ 16) (k' : ∀ a o, Bk3 Wk H ps a o → h.get? a = some o)
    (t : ∃ h₁, Tb 20 16 ps h₁ ∧ ∀ o, h₁.get? 20 = some o → H.get? 20 = some o) : GE (hd.heap_39 p) mg mb h ∧ BMod h mainGlobals mg bm ob ∧ Tb 20 16 ps h := by
  have kS : ∀ b o, b ≠ 16 → H.get? b = some o → h.get? b = some o := fun b o hb e => k' b o (.inl ⟨e, hb⟩)
  obtain ⟨h₁, t1, t2⟩ := t
  refine ⟨⟨fun a o e => ?_, ⟨G.gl.g.at' fun o e => kS _ o (by decide) e, G.gl.b.at' fun o e => kS _ o (by decide) e⟩, G.lim.at fun o e => kS _ o (by decide) e⟩, ⟨BM.ns.at' fun o e => kS _ o (by decide) e, BM.name, BM.ne, kS _ _ hbm BM.obj, BM.cls, BM.dict, BM.data⟩,
    t1.of (fun o e => kS 20 o (by decide) (t2 o e)) (fun o e => ?_)⟩
  · by_cases ha : a = 16
    · subst ha; exact absurd e (by rw [show (hd.heap_39 p).lookup 16 = none from rfl]; exact fun h => nomatch h)
    · exact kS a o ha (G.k a o e)
  · rw [t1.tab.2] at e; cases e
    exact k' 16 _ (.inr (.inr ⟨rfl, rfl⟩))
theorem env3g {H h : Heap} {ps : Array Value} {Wk : Addr → Obj → Prop} (G : GE (hd.heap_39 p) mg mb H) (k' : ∀ a o, Bk3 Wk H ps a o → h.get? a = some o) : GE (hd.heap_39 p) mg mb h := by
  have kS : ∀ b o, b ≠ 16 → H.get? b = some o → h.get? b = some o := fun b o hb e => k' b o (.inl ⟨e, hb⟩)
  refine ⟨fun a o e => ?_, ⟨G.gl.g.at' fun o e => kS _ o (by decide) e, G.gl.b.at' fun o e => kS _ o (by decide) e⟩, G.lim.at fun o e => kS _ o (by decide) e⟩
  by_cases ha : a = 16
  · subst ha; exact absurd e (by rw [show (hd.heap_39 p).lookup 16 = none from rfl]; exact fun h => nomatch h)
  · exact kS a o ha (G.k a o e)

abbrev FSN.at3 {env : Env} {Wk : Addr → Obj → Prop} {H : Heap} {ps : Array Value} {Z N₀ N : Addr → Prop} {ad : Str → Addr} {ρ : Vars} {ac : Accs} {h : Heap} (F : FSN env (Bk3 Wk H ps) Z N₀ N ad ρ ac h) (ps' : Array Value) (ρ' : Vars) (ac' : Accs) (h' : Heap) : Prop := FSN env (Bk3 Wk H ps') Z N₀ N ad ρ' ac' h'
theorem callF_any {env : Env} {f : Str} {np p : Pos} {a : Addr} {ob : Obj} {fd : FuncData} {e : Expr} {es : List Expr} {ds : List D} {s : Shared} {Q : Value → Shared → Prop} {E : Value → Shared → Prop} (F : FE env) (G : Gl mg mb s.heap) (hx : env.kindOf f = some .globalImplicit) (hm : mg f = some (.ref a))
    (ho : s.heap.get? a = some ob) (hf : ob.data = .func fd) (T : 0 < s.toks) (H : EvL prog w A N env s.heap p (e :: es) ds) (k : ∀ vs s₁, Gr s s₁ → RepL N s₁.heap ds vs → wpAny (model prog w) A (call (.ref a) vs) Q E s₁)
    (hd : (f == ("__debug__" : Str)) = false := by decide) (he : starEach (e :: es) env = (false, eval e env) :: starEach es env := by rfl) :
    wpAny (model prog w) A (eval (.Call (.Name f np) (e :: es) [] p) env) Q E s := by
  refine wpAny_Call_Name_kw (name_g F G hx hm ?_ hd)
  refine Calls.callWith_function (o := ob) (fd := fd) ?_
  have H' := H s (fun vs s₁ => (s₁.heap.get? a = some ob ∧ ob.data = .func fd) ∧ wpAny (model prog w) A (call (.ref a) ([] ++ vs) []) Q E s₁) E (Ext.refl _) T fun vs s₁ g r => ⟨⟨g.keep _ _ ho, hf⟩, k vs s₁ g r⟩
  rw [he] at H' ⊢
  exact Calls.evalArgs_plain H'
theorem put2r {Y Y' Z : List D} : Accs.put [(("rings" : Str), Y), (("lacks" : Str), Z)] "rings" Y' = [(("rings" : Str), Y'), (("lacks" : Str), Z)] := rfl
theorem put3s {X X' Y Z : List D} : Accs.put [(("sums" : Str), X), (("rings" : Str), Y), (("lacks" : Str), Z)] "sums" X' = [(("sums" : Str), X'), (("rings" : Str), Y), (("lacks" : Str), Z)] := rfl
theorem ways_lt (w : List (List Nat)) (h : w ∈ waysAt 4) : ∀ o ∈ w, (1 ≤ o.length ∧ o.length ≤ 4) ∧ ∀ k ∈ o, k < 4 := by
  have : ∀ w ∈ waysAt 4, ∀ o ∈ w, (1 ≤ o.length ∧ o.length ≤ 4) ∧ ∀ k ∈ o, k < 4 := by decide
  exact this w h
def marks8 : Str := "/\\:;\"()-"
theorem marks_at {i : Int} (h0 : 0 ≤ i) (h1 : i < 8) : (Txt.charAt marks8 i).isSome = true := by
  obtain ⟨n, rfl⟩ := Int.eq_ofNat_of_zero_le h0
  have hl : marks8.length = 8 := by decide
  rw [charAt_nat (by omega), Array.getElem?_eq_getElem (by show n < marks8.length; omega)]; rfl

theorem count_small (w : List (List Nat)) (h : w ∈ waysAt 4) : 0 ≤ countF w ∧ countF w ≤ 1000 := by
  have : ∀ w ∈ waysAt 4, 0 ≤ countF w ∧ countF w ≤ 1000 := by decide
  exact this w h
theorem rings_succ (st : List Int) (t : Int) {k : Nat} (w : List (List Nat)) (h : (waysAt 4)[k]? = some w) : ringsUpto st t (k + 1) = ringsUpto st t k ++ ringOf st (t + (k : Int)) w := by
  unfold ringsUpto
  rw [List.range_succ, List.flatMap_append, List.flatMap_cons, List.flatMap_nil, List.append_nil]
  rw [List.getD_eq_getElem?_getD, h]; rfl
theorem rings_len (st : List Int) (t : Int) : ∀ k, k ≤ 15 → (ringsUpto st t k).length ≤ k * 1000
  | 0, _ => by simp [ringsUpto]
  | k + 1, hk => by
    have hl : (waysAt 4).length = 15 := by decide
    have hw : (waysAt 4)[k]? = some (waysAt 4)[k] := List.getElem?_eq_getElem (by omega)
    have ih := rings_len st t k (by omega)
    rw [rings_succ st t _ hw, List.length_append, ringOf, List.length_replicate]
    have := (count_small (waysAt 4)[k] (List.getElem_mem (by omega))).2
    omega

theorem sorted_of (l : List Int) : ∃ srt : List Int, srt.Perm l ∧ srt.Pairwise (· ≤ ·) := by
  refine ⟨l.mergeSort (fun a b => decide (a ≤ b)), List.mergeSort_perm .., ?_⟩
  have := List.pairwise_mergeSort (le := fun (a b : Int) => decide (a ≤ b)) (fun a b c h1 h2 => by simp at *; omega) (fun a b => by simp; omega) l
  exact this.imp fun h => of_decide_eq_true h

abbrev FSN.atBk {env : Env} {Bk : Addr → Obj → Prop} {Z N₀ N : Addr → Prop} {ad : Str → Addr} {ρ : Vars} {ac : Accs} {h : Heap} (F : FSN env Bk Z N₀ N ad ρ ac h) (Bk' : Addr → Obj → Prop) (ρ' : Vars) (ac' : Accs) (h' : Heap) : Prop := FSN env Bk' Z N₀ N ad ρ' ac' h'
theorem strip3 {f b : Nat} (hf : f ≤ 12) (hb : b ≤ 12) : padded (f - takeN 0 f) (b - takeN (0 - takeN 0 f) b) = padded f b ∧ padded (f - takeN (-1) f) (b - takeN (-1 - takeN (-1) f) b) = inkS ∧ padded (f - takeN 99 f) (b - takeN (99 - takeN 99 f) b) = inkS := by
  have t0 : ∀ n : Nat, takeN 0 n = 0 := fun n => by unfold takeN; rw [if_pos (by omega)]; rfl
  have tn : ∀ (i : Int) (n : Nat), i < 0 ∨ (n : Int) < i → takeN i n = n := fun i n h => by unfold takeN; rw [if_neg (by omega)]
  refine ⟨?_, ?_, ?_⟩
  · rw [t0 f, show (0 : Int) - ((0 : Nat) : Int) = 0 from rfl, t0 b]; rfl
  · rw [tn (-1) f (by omega), tn _ b (by omega), Nat.sub_self, Nat.sub_self]; rfl
  · rw [tn 99 f (by omega), tn _ b (by omega), Nat.sub_self, Nat.sub_self]; rfl

theorem three_le : 3 ≤ sizeLine := by decide
theorem Gives.cast {t : Sem Value} {s : Shared} {d d' : D} (H : Gives prog w A N d t s) (e : d = d') : Gives prog w A N d' t s := e ▸ H

set_option maxHeartbeats 8000000 in
theorem c_law {s : Shared} {v : Value} {l : List Int} {ps : Array Value} {bm : Addr} {ob : Obj} {Q : Value → Shared → Prop} {E : Value → Shared → Prop} (GMm : GM mg mb) (BM : BMod s.heap mainGlobals mg bm ob) (hbm : bm ≠ 16) (G : GE (hd.heap_39 p) mg mb s.heap) (rm : Rm A 5) (hN : New N s.heap) (hN16 : ¬ N 16)
    (tb : Tb 20 16 ps s.heap) (r : Rep N s.heap (.script l) v) (hl : l.length ≤ 63) (LF : LawFacts (stepsF l) (l.sum.fmod 16))
    (q : ∀ s' ps', (∀ b o, b ≠ 16 → s.heap.get? b = some o → s'.heap.get? b = some o) → Tb 20 16 ps' s'.heap → (∃ more, ps' = ps ++ more) → Sm s s' → Q (.bool true) s') :
    wpAny (model prog w) A (call (.ref 79) [v]) Q E s := by
  refine enterG1 (N := N) (x := "script") (d := .script l) rm (G.k 79 _ rfl) rfl G.lim ⟨78, _, _, _, rfl, G.k 78 _ rfl, rfl, rfl⟩ rfl rfl hN
    (fun Q E q => wpAny_pure (q [v] _ (Gr.refl s) (.cons r .nil))) rfl (by decide) rfl fun s₀ L N' ad s₁ E' g₀ F mB T₀ rm' => ?_
  have m := Sm.refl s₁
  have hN' : ¬ N' 16 := fun h => hN16 (F.sub _ h).1
  have h16 : s₀.heap.get? 16 = some (tabOf ps) := g₀.keep _ _ tb.tab.2
  have G₀ : GE (hd.heap_39 p) mg mb s₀.heap := G.ext g₀.keep
  generalize hst : stepsF l = st at LF
  refine wpAny_execs_cons (F.assign (m.pos T₀) (.inr ⟨rfl, rfl, _, rfl⟩) (d := dInts st) (.callF ⟨rfl, rfl, rfl⟩ (G₀.ext F.ext).gl rfl GMm.steps ((G₀.ext F.ext).k 40 _ rfl) rfl (.cons (F.ev (d := .script l) rfl) .nil)
    fun s'' vs X T' r' => Gives.cast (c_steps GMm ((G₀.ext F.ext).ext X) (rm'.le (by omega)) (F.grow X).new T' r' hl) (by rw [hst])) fun s₂ m₂ F₂ => ?_)
  refine wpAny_execs_cons (F₂.assign ((m.trans m₂).pos T₀) (.inl rfl) (d := .str inkS) (Ev.cast .str (congrArg D.str (by decide))) fun s₃ m₃ F₃ => ?_)
  have m03 := (m.trans m₂).trans m₃
  refine wpAny_execs_cons (F₃.newAcc (x := "lacks") (m03.pos T₀) (.inl rfl) .nil (by decide) fun s₄ a₄ m₄ Na₄ F₄ => ?_)
  have m04 := m03.trans m₄
  have G₄ : GE (hd.heap_39 p) mg mb s₄.heap := G₀.ext F₄.ext
  have hsum0 : ∀ (A' : Around), A'.handled = none → ∀ (N : Addr → Prop) (s'' : Shared) (ns : List Int) vs, RepL N s''.heap [dInts ns] vs → Gives prog w A' N (.int ns.sum) (call (.builtin "sum") vs) s'' := fun A' hA N s'' ns vs r' => by
    obtain ⟨v, rfl, r1⟩ := r'.one
    exact .sum hA (.ofL r1)
  have hpad : ∀ (f b : Nat) (g : Int), (b : Int) = g → Txt.mul (" " : Str) (f : Int) ++ inkS ++ Txt.mul (" " : Str) g = padded f b := fun f b g e => by
    subst e
    apply Str.ext_list
    rw [append_list, append_list, sp_list, sp_list]; rfl
  refine seqW (fun s' => ∃ ρ, Sm s₁ s' ∧ F₄.at ρ [(("lacks" : Str), ((ordersAt 4).map (lackF st)).map D.int)] s'.heap ∧ ρ "steps" = some (dInts st) ∧ ρ "ink" = some (.str inkS) ∧ ρ "script" = some (.script l)) ?_ fun s₅ h₅ => ?_
  · refine F₄.forD (fun s' => Sm s₁ s') (fun _ _ x y => x.trans y) (fun _ x => x.pos T₀) m04 (.list rm'.hh (.callF0 ⟨rfl, rfl, rfl⟩ G₄.gl rfl GMm.orders (G₄.k 45 _ rfl) rfl fun s'' X T' => c_orders GMm (G₄.ext X) (rm'.le (by omega)) (F₄.grow X).new T')) (.name (.inl rfl)) (fun _ _ => trivial)
      (fun k ρ ac => ac = [(("lacks" : Str), (((ordersAt 4).take k).map (lackF st)).map D.int)] ∧ ρ "steps" = some (dInts st) ∧ ρ "ink" = some (.str inkS) ∧ ρ "script" = some (.script l)) ?_ ?_ ?_ ?_
    · exact ⟨rfl, rfl, rfl, rfl⟩
    · rintro k ρ' ac' ⟨rfl, _⟩ e he
      exact ⟨_, List.mem_singleton.mpr rfl, by rw [List.mem_singleton.mp he]⟩
    · rintro k d ρ' ac' Bk' N'' s' E'' hdk ⟨rfl, h1, h2, h3⟩ hN'' hbk F' m'
      obtain ⟨o, ho, rfl⟩ := map_get hdk
      have homem := List.mem_of_getElem? ho
      have htk : (ordersAt 4).take (k + 1) = (ordersAt 4).take k ++ [o] := by rw [List.take_add_one, ho]; rfl
      have G' : GE (hd.heap_39 p) mg mb s'.heap := G₀.ext fun b o e => F'.keep b o (hbk b o e)
      have hol := ordersAt_len 4 o homem
      obtain ⟨b1, b2, b3⟩ := LF.bal o homem
      refine wpAny_execs_cons (F'.assign (m'.pos T₀) (.inr ⟨rfl, rfl, _, rfl⟩) (.callF ⟨rfl, rfl, rfl⟩ G'.gl rfl GMm.line (G'.k 59 _ rfl) rfl (.cons (F'.ev (d := dInts st) h1) (.cons (F'.ev (d := dNats o) rfl) (.cons (F'.ev (d := .str inkS) h2) .nil)))
        fun s'' vs X T' r' => c_line GMm (G'.ext X) (rm'.le (by omega)) (F'.grow X).new T' r' (fun k hk => by rw [LF.len]; exact orders_lt o homem k hk) LF.rng (by omega) (by rw [LF.len]; omega)) fun s₅ m₅ F₅ => ?_)
      have m5 := m'.trans m₅
      have G₅ : GE (hd.heap_39 p) mg mb s₅.heap := G₀.ext fun b o e => F₅.keep b o (hbk b o e)
      refine wpAny_execs_cons (F₅.assign (m5.pos T₀) (.inl rfl) (d := .int ((lineF st o).1 : Int)) (Ev.cast (.find (F₅.ev (x := "line") (d := .str (padded (lineF st o).1 (lineF st o).2)) rfl) (F₅.ev (d := .str inkS) h2)) (by rw [LF.find _ _ b1 b2])) fun s₆ m₆ F₆ => ?_)
      have m6 := m5.trans m₆
      have G₆ : GE (hd.heap_39 p) mg mb s₆.heap := G₀.ext fun b o e => F₆.keep b o (hbk b o e)
      refine wpAny_execs_cons (F₆.assign (m6.pos T₀) (.inl rfl) (d := .int (lackF st o)) (.addI (F₆.ev (x := "front") (d := .int ((lineF st o).1 : Int)) rfl) (.callB ⟨rfl, rfl, rfl⟩ G₆.gl rfl GMm.sum.1 GMm.sum.2 (.cons (F₆.ev (d := dInts st) h1) .nil) fun s'' vs X T' r' => hsum0 _ rm'.hh _ s'' st vs r')) fun s₇ m₇ F₇ => ?_)
      have m7 := m6.trans m₇
      refine wpAny_execs_cons (F₇.ite (m7.pos T₀) (b := false) (.cast (.cmp (F₇.ev (x := "line") (d := .str (padded (lineF st o).1 (lineF st o).2)) rfl) (.addS (.addS (.mulS .str (F₇.ev (x := "front") (d := .int ((lineF st o).1 : Int)) rfl) (mul_ok (by omega) (by omega) (by decide))) (F₇.ev (d := .str inkS) h2) ?_)
        (.mulS .str (.subI .int (F₇.ev (x := "lack") (d := .int (lackF st o)) rfl)) (mul_ok (by omega) (by omega) (by decide))) ?_) .neS) ?_) (fun h => by cases h) fun _ s₈ m₈ F₈ => ?_)
      · rw [mul_len, show (" " : Str).length = 1 from by decide, show inkS.length = 10 from by decide, sizeLine_eq]; omega
      · rw [len_append, mul_len, mul_len, show (" " : Str).length = 1 from by decide, show inkS.length = 10 from by decide, sizeLine_eq]; omega
      · rw [hpad _ _ _ b3]; simp
      · have m8 := m7.trans m₈
        have hl24 : ((((ordersAt 4).take k).map (lackF st)).map D.int).length ≤ sizeLine := by
          rw [List.length_map, List.length_map, List.length_take, sizeLine_eq]
          have : (ordersAt 4).length = 24 := by decide
          omega
        refine wpAny_execs_nil (wpAny_execs_cons (F₈.append (m8.pos T₀) (List.mem_singleton.mpr rfl) (F₈.ev (x := "lack") (d := .int (lackF st o)) rfl) hl24 (by decide) fun s₉ m₉ F₉ => ?_))
        refine wpAny_execs_nil ⟨.inl rfl, m8.trans m₉, _, _, F₉, ?_, h1, h2, h3⟩
        show Accs.put [(("lacks" : Str), _)] "lacks" _ = _
        unfold Accs.put
        rw [htk, List.map_append, List.map_append]; rfl
    · rintro s' ρ' ac' m' F' ⟨rfl, h1, h2, h3⟩
      refine ⟨rfl, ρ', m', ?_, h1, h2, h3⟩
      rw [List.length_map, List.take_length] at F'
      exact F'
  obtain ⟨ρ₅, m₅, F₅, h1, h2, h3⟩ := h₅
  refine wpAny_execs_cons (F₅.newAcc (x := "rings") (m₅.pos T₀) (.inl rfl) .nil (by decide) fun s₆ a₆ m₆ Na₆ F₆ => ?_)
  have m06 := m₅.trans m₆
  have G₆ : GE (hd.heap_39 p) mg mb s₆.heap := G₀.ext F₆.ext
  refine wpAny_execs_cons (F₆.assign (m06.pos T₀) (.inl rfl) (.modI (.callB (d := .int l.sum) ⟨rfl, rfl, rfl⟩ G₆.gl rfl GMm.sum.1 GMm.sum.2 (.cons (F₆.ev (d := .script l) h3) .nil) fun s'' vs X T' r' => ?_) .int (by decide)) fun s₇ m₇ F₇ => ?_)
  · obtain ⟨v, rfl, r1⟩ := r'.one
    exact .sum rm'.hh (.ofScript r1)
  generalize ht0 : l.sum.fmod 16 = t0 at LF F₇
  have ht0b : 0 ≤ t0 ∧ t0 < 16 := by rw [← ht0, Int.fmod_eq_emod_of_nonneg _ (by decide)]; omega
  have m07 := m06.trans m₇
  have G₇ : GE (hd.heap_39 p) mg mb s₇.heap := G₀.ext F₇.ext
  have BM₀ : BMod s₀.heap mainGlobals mg bm ob := BM.keeps g₀.keep
  have tb₀ : Tb 20 16 ps s₀.heap := tb.keeps g₀.keep
  have P₇ := F₇.pin3 h16
  refine seqW (fun s' => ∃ ps' ρ, Sm s₁ s' ∧ P₇.at3 ps' ρ [(("rings" : Str), (ringsUpto st t0 15).map D.int), (("lacks" : Str), ((ordersAt 4).map (lackF st)).map D.int)] s'.heap ∧ (∃ more, ps' = ps ++ more) ∧ (codeAmong gpos ps'.toList ≠ none) ∧
      (∃ h₁, Tb 20 16 ps' h₁ ∧ ∀ o, h₁.get? 20 = some o → s₀.heap.get? 20 = some o) ∧ ρ "steps" = some (dInts st) ∧ ρ "ink" = some (.str inkS)) ?_ fun s₈ h₈ => ?_
  · refine P₇.forDi (fun _ _ h => h.elim) (fun h => hN' h.1.1) (fun e => ?_) (fun s' => Sm s₁ s') (fun _ _ x y => x.trans y) (fun _ x => x.pos T₀) m07 (.list rm'.hh (.callF0 ⟨rfl, rfl, rfl⟩ G₇.gl rfl GMm.ways (G₇.k 52 _ rfl) rfl fun s'' X T' => c_ways GMm (G₇.ext X) (rm'.le (by omega)) (F₇.grow X).new T')) (.name (.inl rfl)) (fun _ _ => trivial)
      (fun k ps' ρ ac => ac = [(("rings" : Str), (ringsUpto st t0 k).map D.int), (("lacks" : Str), ((ordersAt 4).map (lackF st)).map D.int)] ∧ (∃ more, ps' = ps ++ more) ∧ (0 < k → codeAmong gpos ps'.toList ≠ none) ∧
        (∃ h₁, Tb 20 16 ps' h₁ ∧ ∀ o, h₁.get? 20 = some o → s₀.heap.get? 20 = some o) ∧ ρ "steps" = some (dInts st) ∧ ρ "ink" = some (.str inkS) ∧ ρ "turn" = some (.int (t0 + k))) ?_ ?_ ?_ ?_
    · rw [show s₇.heap.get? 16 = some _ from F₇.keep _ _ h16] at e; cases e
    · exact ⟨rfl, ⟨#[], by simp⟩, (fun h => absurd h (Nat.lt_irrefl _)), ⟨_, tb₀, fun o e => e⟩, h1, h2, (by show some (D.int _) = some (D.int _); simp)⟩
    · rintro k ps' ρ' ac' ⟨rfl, _⟩ e he
      simp only [List.mem_cons, List.not_mem_nil, or_false] at he
      rcases he with rfl | rfl
      · exact ⟨(("rings" : Str), _), List.mem_cons_self .., rfl⟩
      · exact ⟨(("lacks" : Str), _), List.mem_cons_of_mem _ (List.mem_cons_self ..), rfl⟩
    · rintro k d ps' ρ' ac' Wk' N'' s' E'' hdk ⟨rfl, hmore, hfnd, htb, h1, h2, h3⟩ hN'' hW16 hWk F' m'
      obtain ⟨w', hw, rfl⟩ := map_get hdk
      have hwmem := List.mem_of_getElem? hw
      have hk15 : k < 15 := by
        have h15 : (waysAt 4).length = 15 := by decide
        have := (List.getElem?_eq_some_iff.mp hw).1
        omega
      have hwl := waysAt_len 4 w' hwmem
      have N16 : ¬ N'' 16 := fun h => hN' (hN'' _ h).1.1
      have htk : 0 ≤ t0 + (k : Int) ∧ t0 + (k : Int) < 100 := by omega
      refine wpAny_execs_cons (F'.assign (x := "mark") (m'.pos T₀) (.inl rfl) (d := .str "") .str fun s₅ m₅ F₅ => ?_)
      have m5 := m'.trans m₅
      refine seqW (fun s'' => ∃ ρ₂, Sm s₁ s'' ∧ F₅.at3 ps' ρ₂ [(("rings" : Str), (ringsUpto st t0 k).map D.int), (("lacks" : Str), ((ordersAt 4).map (lackF st)).map D.int)] s''.heap ∧ ρ₂ "steps" = some (dInts st) ∧ ρ₂ "ink" = some (.str inkS) ∧ ρ₂ "turn" = some (.int (t0 + k)) ∧ ρ₂ "way" = some (dWay w') ∧ ρ₂ "mark" = some (.str (markOf (t0 + k)))) ?_ fun s₆ h₆ => ?_
      · refine F₅.ite (m5.pos T₀) (b := decide ((t0 + (k : Int)).fmod 2 = 1)) (.cmp (.modI (F₅.ev (x := "turn") (d := .int (t0 + k)) h3) .int (by decide)) .int .eqI) (fun hb s₆ m₆ F₆ => ?_) fun hb s₆ m₆ F₆ => ?_
        · have hi : 0 ≤ ((t0 + (k : Int)).fdiv 2).fmod 8 ∧ ((t0 + (k : Int)).fdiv 2).fmod 8 < 8 := by rw [Int.fmod_eq_emod_of_nonneg _ (by decide)]; omega
          refine wpAny_execs_cons (F₆.assign ((m5.trans m₆).pos T₀) (.inl rfl) (.itemS .str (.modI (.fdivI (F₆.ev (x := "turn") (d := .int (t0 + k)) h3) .int (by decide) rfl) .int (by decide)) (by simp [fitsSsize]; omega) (marks_at hi.1 hi.2)) fun s₇ m₇ F₇ => ?_)
          refine wpAny_execs_nil ⟨rfl, _, (m5.trans m₆).trans m₇, F₇, h1, h2, h3, rfl, ?_⟩
          show some (D.str _) = some (D.str _)
          rw [markOf, if_pos (of_decide_eq_true hb)]
        · refine wpAny_execs_nil ⟨rfl, _, m5.trans m₆, F₆, h1, h2, h3, rfl, ?_⟩
          show some (D.str _) = some (D.str _)
          rw [markOf, if_neg (of_decide_eq_false hb)]
      obtain ⟨ρ₆, m6, F₆, h1, h2, h3, h4, h5⟩ := h₆
      generalize hmk : markOf (t0 + (k : Int)) = mark at h5
      refine wpAny_execs_cons (F₆.assign (m6.pos T₀) (.inl rfl) (.addI (F₆.ev (d := .int (t0 + k)) h3) .int) fun s₇ m₇ F₇ => ?_)
      refine wpAny_execs_cons (F₇.newAcc (x := "sums") ((m6.trans m₇).pos T₀) (.inl rfl) .nil (by decide) fun s₈ a₈ m₈ Na₈ F₈ => ?_)
      have m8 := (m6.trans m₇).trans m₈
      have hway := ways_lt w' hwmem
      have gE : ∀ h, (∀ a o, Bk3 Wk' s₀.heap ps' a o → h.get? a = some o) → GE (hd.heap_39 p) mg mb h := fun h k' => env3g G₀ k'
      refine seqW (fun s'' => ∃ ρ₂, Sm s₁ s'' ∧ F₈.at ρ₂ [(("sums" : Str), (sumsF st w').map dSum), (("rings" : Str), (ringsUpto st t0 k).map D.int), (("lacks" : Str), ((ordersAt 4).map (lackF st)).map D.int)] s''.heap ∧ ρ₂ "steps" = some (dInts st) ∧ ρ₂ "ink" = some (.str inkS) ∧ ρ₂ "turn" = some (.int (t0 + k + 1)) ∧ ρ₂ "way" = some (dWay w') ∧ ρ₂ "mark" = some (.str mark)) ?_ fun s₉ h₉ => ?_
      · refine F₈.forD (fun s' => Sm s₁ s') (fun _ _ x y => x.trans y) (fun _ x => x.pos T₀) m8 (.list rm'.hh (F₈.ev (d := dWay w') h4)) (.name (.inl rfl)) (fun _ _ => trivial)
          (fun j ρ ac => ac = [(("sums" : Str), (sumsF st (w'.take j)).map dSum), (("rings" : Str), (ringsUpto st t0 k).map D.int), (("lacks" : Str), ((ordersAt 4).map (lackF st)).map D.int)] ∧ ρ "steps" = some (dInts st) ∧ ρ "ink" = some (.str inkS) ∧ ρ "turn" = some (.int (t0 + k + 1)) ∧ ρ "way" = some (dWay w') ∧ ρ "mark" = some (.str mark)) ?_ ?_ ?_ ?_
        · exact ⟨rfl, h1, h2, rfl, h4, h5⟩
        · rintro j ρ' ac' ⟨rfl, _⟩ e he
          simp only [List.mem_cons, List.not_mem_nil, or_false] at he
          rcases he with rfl | rfl | rfl
          · exact ⟨(("sums" : Str), _), List.mem_cons_self .., rfl⟩
          · exact ⟨(("rings" : Str), _), List.mem_cons_of_mem _ (List.mem_cons_self ..), rfl⟩
          · exact ⟨(("lacks" : Str), _), List.mem_cons_of_mem _ (List.mem_cons_of_mem _ (List.mem_cons_self ..)), rfl⟩
        · rintro j d ρ₉ ac₉ Bk₉ N₉ s₉ E₉ hdj ⟨rfl, h1, h2, h3, h4, h5⟩ hN₉ hbk₉ F₉ m₉
          obtain ⟨hp, hhp, rfl⟩ := map_get hdj
          obtain ⟨hpl, hpk⟩ := hway hp (List.mem_of_getElem? hhp)
          have htk : w'.take (j + 1) = w'.take j ++ [hp] := by rw [List.take_add_one, hhp]; rfl
          have G₉ : GE (hd.heap_39 p) mg mb s₉.heap := gE _ fun a o b => F₉.keep a o (hbk₉ a o b)
          have cp : ∀ (f : Int → Int) (ff : D → D), (∀ i, ff (.int i) = .int (f i)) → dInts (hp.map fun (k : Nat) => f (k : Int)) = .list ((((hp.map fun (k : Nat) => D.int (k : Int)).filter fun _ => true)).map ff) := fun f ff e => by
            show D.list _ = D.list _
            rw [List.filter_eq_self.mpr (fun _ _ => rfl), List.map_map, List.map_map]
            congr 1
            refine List.map_congr_left fun k _ => ?_
            show D.int (f k) = ff (.int (k : Int))
            rw [e]
          refine wpAny_execs_cons (F₉.append (d := dSum (heapSum st hp)) (m₉.pos T₀) (List.mem_cons_self ..) (.tup F₉.new (.cons (.callB ⟨rfl, rfl, rfl⟩ G₉.gl rfl GMm.sum.1 GMm.sum.2 (.cons (Ev.cast (.comp (cl := [("steps", L + 1)]) (ρc := Vars.of [("steps", dInts st)]) (ds := hp.map fun (k : Nat) => D.int (k : Int))
              ⟨rfl, fun c hc => by rw [List.mem_singleton.mp hc]; exact .tail _ (.head _), rfl, by decide, by decide, fun x d e => by obtain ⟨rfl, rfl⟩ := of_one e; exact ⟨h1, rfl, rfl, rfl⟩⟩ F₉.new F₉.vars F₉.cells (.list rm'.hh (F₉.ev (x := "heap") (d := dNats hp) rfl))
              (.one (fun _ => true) (fun d => match d with | .int i => .int (mx (0 - st.getD i.toNat 0) 0) | d => d) (fun C => .name (.inl rfl)) (fun _ _ => trivial) (fun _ => rfl) (fun d ρ ρ' _ h => h.put _ _) (fun d ρ' _ h => h.skip _ rfl) (by rw [List.length_map, sizeLine_eq]; omega) ?_)) (cp (fun i => mx (0 - st.getD i.toNat 0) 0) _ fun _ => rfl).symm) .nil) fun s'' vs X T' r' => hsum0 _ rm'.hh _ s'' _ vs r')
            (.cons (.callB ⟨rfl, rfl, rfl⟩ G₉.gl rfl GMm.sum.1 GMm.sum.2 (.cons (Ev.cast (.comp (cl := [("steps", L + 1)]) (ρc := Vars.of [("steps", dInts st)]) (ds := hp.map fun (k : Nat) => D.int (k : Int))
              ⟨rfl, fun c hc => by rw [List.mem_singleton.mp hc]; exact .tail _ (.head _), rfl, by decide, by decide, fun x d e => by obtain ⟨rfl, rfl⟩ := of_one e; exact ⟨h1, rfl, rfl, rfl⟩⟩ F₉.new F₉.vars F₉.cells (.list rm'.hh (F₉.ev (x := "heap") (d := dNats hp) rfl))
              (.one (fun _ => true) (fun d => match d with | .int i => .int (mx (st.getD i.toNat 0) 0) | d => d) (fun C => .name (.inl rfl)) (fun _ _ => trivial) (fun _ => rfl) (fun d ρ ρ' _ h => h.put _ _) (fun d ρ' _ h => h.skip _ rfl) (by rw [List.length_map, sizeLine_eq]; omega) ?_)) (cp (fun i => mx (st.getD i.toNat 0) 0) _ fun _ => rfl).symm) .nil) fun s'' vs X T' r' => hsum0 _ rm'.hh _ s'' _ vs r') .nil)) two_le)
            (by rw [List.length_map, sumsF, List.length_map, List.length_take, sizeLine_eq]; omega) (by decide) fun s₁₀ m₁₀ F₁₀ => ?_)
          · intro C Bk N ad ac s d hd' F X T
            obtain ⟨i, hi, rfl⟩ := List.mem_map.mp hd'
            have hi4 := hpk i hi
            exact ⟨.none, fun _ => .callB ⟨rfl, rfl, rfl⟩ (G₉.ext X).gl rfl GMm.max.1 GMm.max.2 (.cons (.subI .int (.itemL (F.ev (d := dInts st) rfl) (F.ev (d := .int i) rfl) (by omega) (by omega) (by rw [Int.toNat_natCast, getElem?_of_getD (by rw [LF.len]; omega)]))) (.cons .int .nil))
              fun s'' vs X T' r' => .max2 rm'.hh r'⟩
          · intro C Bk N ad ac s d hd' F X T
            obtain ⟨i, hi, rfl⟩ := List.mem_map.mp hd'
            have hi4 := hpk i hi
            exact ⟨.none, fun _ => .callB ⟨rfl, rfl, rfl⟩ (G₉.ext X).gl rfl GMm.max.1 GMm.max.2 (.cons (.itemL (F.ev (d := dInts st) rfl) (F.ev (d := .int i) rfl) (by omega) (by omega) (by rw [Int.toNat_natCast, getElem?_of_getD (by rw [LF.len]; omega)])) (.cons .int .nil))
              fun s'' vs X T' r' => .max2 rm'.hh r'⟩
          · refine wpAny_execs_nil ⟨.inl rfl, m₉.trans m₁₀, _, _, F₁₀, ?_, h1, h2, h3, h4, h5⟩
            refine put3s.trans ?_
            rw [htk, sumsF, sumsF, List.map_append, List.map_append]; rfl
        · rintro s' ρ' ac' m' F' ⟨rfl, h1, h2, h3, h4, h5⟩
          refine ⟨rfl, ρ', m', ?_, h1, h2, h3, h4, h5⟩
          rw [List.length_map, List.take_length] at F'
          exact F'
      obtain ⟨ρ₉, m9, F₉, h1, h2, h3, h4, h5⟩ := h₉
      have hsml := LF.small w' hwmem
      have hsl : (sumsF st w').length ≤ 4 := by rw [sumsF, List.length_map]; exact hwl.1
      have Ft : F₅.at3 ps' (ρ₉.put "sums" (dSums (sumsF st w'))) [(("rings" : Str), (ringsUpto st t0 k).map D.int), (("lacks" : Str), ((ordersAt 4).map (lackF st)).map D.int)] s₉.heap := by
        refine (F₉.freeze (x := "sums") (List.mem_cons_self ..) (by decide)).thaw F₆ (fun b hb => ?_) fun e he => ?_
        · rcases hb with hb | hb
          · exact hb.1
          · rw [hb]; exact Na₈
        · replace he : e ∈ [(("rings" : Str), (ringsUpto st t0 k).map D.int), (("lacks" : Str), ((ordersAt 4).map (lackF st)).map D.int)] := he
          simp only [List.mem_cons, List.not_mem_nil, or_false] at he
          rcases he with rfl | rfl
          · exact ⟨if_neg (show ¬ (("rings" : Str) = "sums") by decide), (("rings" : Str), _), List.mem_cons_self .., rfl⟩
          · exact ⟨if_neg (show ¬ (("lacks" : Str) = "sums") by decide), (("lacks" : Str), _), List.mem_cons_of_mem _ (List.mem_cons_self ..), rfl⟩
      clear F₉
      have G₉ : GE (hd.heap_39 p) mg mb s₉.heap := gE _ Ft.keep
      refine wpAny_execs_cons (Ft.assignC (m9.pos T₀) (.inl rfl) (cl := []) (ρc := fun _ => none) (ds := (sumsF st w').map dSum) (out := (textsF (sumsF st w')).map D.str) ⟨rfl, fun c hc => (by cases hc), rfl, by decide, by decide, fun x d e => (by cases e)⟩ (.list rm'.hh (Ft.ev (x := "sums") (d := dSums (sumsF st w')) rfl))
        ?_ fun s₁₀ m₁₀ F₁₀ => ?_)
      · have hout : (textsF (sumsF st w')).map D.str = (((sumsF st w').map dSum).filter fun _ => true).map fun d => match d with | .tup [.int p, .int t] => .str (textOf (p, t)) | d => d := by
          rw [List.filter_eq_self.mpr (fun _ _ => rfl), textsF, List.map_map, List.map_map]; rfl
        rw [hout]
        refine .one (fun _ => true) _ (fun C => .tup rm'.hh (.inl rfl) (.inl rfl) (by decide)) (fun d hd' => ?_) (fun _ => rfl) (fun d ρ ρ' h h' => h'.upT h) (fun d ρ' h h' => h'.skipT h rfl rfl) (by rw [List.length_map, sizeLine_eq]; omega) ?_
        · obtain ⟨pt, _, rfl⟩ := List.mem_map.mp hd'
          exact ⟨_, _, rfl⟩
        · intro C Bk N ad ac s d hd' F X T
          obtain ⟨pt, hpt, rfl⟩ := List.mem_map.mp hd'
          obtain ⟨⟨q1, q2⟩, q3, q4⟩ := hsml pt hpt
          have Gx := G₉.ext X
          exact ⟨.none, fun _ => .callF ⟨rfl, rfl, rfl⟩ Gx.gl rfl GMm.blank (Gx.k 28 _ rfl) rfl (.cons (.addS (.mulS .str (F.ev (d := .int pt.1) rfl) (mul_ok (by omega) (by omega) (by decide))) (.mulS .str (F.ev (d := .int pt.2) rfl) (mul_ok (by omega) (by omega) (by decide)))
            (by rw [mul_len, mul_len, show ("un" : Str).length = 2 from by decide, show ("known" : Str).length = 5 from by decide, sizeLine_eq]; omega)) .nil) fun s'' vs X' T' r' => c_blank (Gx.ext X') (rm'.le (by omega)) (F.grow X').new T' r'⟩
      · have m10 := m9.trans m₁₀
        obtain ⟨g10, b10, t10⟩ := env3 G₀ BM₀ hbm F₁₀.keep htb
        obtain ⟨rr, htidy, hrr⟩ := LF.tidy k w' hw
        rw [hmk] at htidy
        refine wpAny_execs_cons (Assign_Tuple (callF_any ⟨rfl, rfl, rfl⟩ g10.gl rfl GMm.tidied (g10.k 69 _ rfl) rfl (m10.pos T₀) (.cons (F₁₀.ev (x := "texts") (d := .list ((textsF (sumsF st w')).map D.str)) rfl) (.cons (F₁₀.ev (d := .str mark) h5) .nil)) fun vs s₁₁ g₁₁ r₁₁ => ?_) rfl rfl)
        refine c_tidied (N := N'') GMm (b10.keeps g₁₁.keep) hbm (g10.ext g₁₁.keep) (rm'.le (by omega)) (F₁₀.grow g₁₁.keep).new N16 ((m10.trans g₁₁.sm).pos T₀) (t10.keeps g₁₁.keep) r₁₁ htidy fun v s₁₂ ps₁₂ keep tb₁₂ hmore₁₂ hfnd₁₂ m₁₂ r₁₂ => ?_
        have F₁₂ := (F₁₀.grow g₁₁.keep).re163 hW16 rfl N16 keep tb₁₂.tab.2
        have m12 := (m10.trans g₁₁.sm).trans m₁₂
        have hmore' : ∃ more, ps₁₂ = ps ++ more := by
          obtain ⟨a, ha⟩ := hmore
          obtain ⟨b, hb⟩ := hmore₁₂
          exact ⟨a ++ b, by rw [hb, ha, Array.append_assoc]⟩
        have htb' : ∃ h₁, Tb 20 16 ps₁₂ h₁ ∧ ∀ o, h₁.get? 20 = some o → s₀.heap.get? 20 = some o := ⟨_, tb₁₂, fun o e => by
          obtain ⟨oc, hoc⟩ : ∃ o, s₀.heap.get? 20 = some o := ⟨_, G₀.k 20 _ rfl⟩
          rw [keep 20 oc (by decide) (g₁₁.keep _ _ (F₁₀.keep 20 oc (.inl ⟨hoc, by decide⟩)))] at e
          rw [hoc]; exact e⟩
        refine setTup rm'.hh (.inl rfl) (.inl rfl) (by decide) _ _ F₁₂ r₁₂ fun s₁₃ m₁₃ F₁₃ => ?_
        have m13 := m12.trans m₁₃
        have gE2 : ∀ h, (∀ a o, Bk3 Wk' s₀.heap ps₁₂ a o → h.get? a = some o) → GE (hd.heap_39 p) mg mb h := fun h k' => env3g G₀ k'
        have G₁₃ := gE2 _ F₁₃.keep
        have hdflat : ∀ d ∈ [D.str (dueName (endsF mark (sumsF st w'))), D.int (rr : Int)], d.flat = true := fun d hd' => by
          simp only [List.mem_cons, List.not_mem_nil, or_false] at hd'
          rcases hd' with rfl | rfl <;> rfl
        refine wpAny_execs_cons (F₁₃.ite (m13.pos T₀) (b := false) (.cmp (.tup F₁₃.new (.cons (F₁₃.ev (x := "name") (d := .str (dueName (endsF mark (sumsF st w')))) rfl) (.cons (F₁₃.ev (x := "rounds") (d := .int rr) rfl) .nil)) two_le)
          (.callF (d := dRes (dueName (endsF mark (sumsF st w'))) rr) ⟨rfl, rfl, rfl⟩ G₁₃.gl rfl GMm.due (G₁₃.k 74 _ rfl) rfl (.cons (F₁₃.ev (x := "sums") (d := dSums (sumsF st w')) rfl) (.cons (F₁₃.ev (d := .str mark) h5) .nil)) fun s'' vs X T' r' => Gives.cast (c_due GMm (G₁₃.ext X) (rm'.le (by omega)) (F₁₃.grow X).new T' r' hsl hsml) (by rw [hrr])) (.neT hdflat rm'.cline)) (fun h => by cases h) fun _ s₁₄ m₁₄ F₁₄ => ?_)
        refine wpAny_execs_nil (wpAny_execs_cons (F₁₄.assign ((m13.trans m₁₄).pos T₀) (.inl rfl) .int fun s₁₅ m₁₅ F₁₅ => ?_))
        have m15 := (m13.trans m₁₄).trans m₁₅
        refine seqW (fun s'' => ∃ ρ₂, Sm s₁ s'' ∧ F₁₅.at3 ps₁₂ ρ₂ [(("rings" : Str), (ringsUpto st t0 k).map D.int), (("lacks" : Str), ((ordersAt 4).map (lackF st)).map D.int)] s''.heap ∧ ρ₂ "steps" = some (dInts st) ∧ ρ₂ "ink" = some (.str inkS) ∧ ρ₂ "turn" = some (.int (t0 + k + 1)) ∧ ρ₂ "name" = some (.str (dueName (endsF mark (sumsF st w')))) ∧ ρ₂ "count" = some (.int (countF w'))) ?_ fun s₁₆ h₁₆ => ?_
        · refine F₁₅.forD (fun s' => Sm s₁ s') (fun _ _ x y => x.trans y) (fun _ x => x.pos T₀) m15 (.list rm'.hh (F₁₅.ev (d := dWay w') h4)) (.name (.inl rfl)) (fun _ _ => trivial)
            (fun j ρ ac => ac = [(("rings" : Str), (ringsUpto st t0 k).map D.int), (("lacks" : Str), ((ordersAt 4).map (lackF st)).map D.int)] ∧ ρ "steps" = some (dInts st) ∧ ρ "ink" = some (.str inkS) ∧ ρ "turn" = some (.int (t0 + k + 1)) ∧ ρ "name" = some (.str (dueName (endsF mark (sumsF st w')))) ∧ ∃ c : Int, 0 ≤ c ∧ c ≤ 6 ^ j ∧ c = countF (w'.take j) ∧ ρ "count" = some (.int c)) ?_ ?_ ?_ ?_
          · exact ⟨rfl, h1, h2, h3, rfl, 1, by decide, by decide, rfl, rfl⟩
          · rintro j ρ' ac' ⟨rfl, _⟩ e he
            simp only [List.mem_cons, List.not_mem_nil, or_false] at he
            rcases he with rfl | rfl
            · exact ⟨(("rings" : Str), _), List.mem_cons_self .., rfl⟩
            · exact ⟨(("lacks" : Str), _), List.mem_cons_of_mem _ (List.mem_cons_self ..), rfl⟩
          · rintro j d ρ₉ ac₉ Bk₉ N₉ s₉ E₉ hdj ⟨rfl, h1, h2, h3, h4, c, c0, c6, cc, h5⟩ hN₉ hbk₉ F₉ m₉
            obtain ⟨hp, hhp, rfl⟩ := map_get hdj
            obtain ⟨hpl, hpk⟩ := hway hp (List.mem_of_getElem? hhp)
            have hj4 : j < 4 := by have := (List.getElem?_eq_some_iff.mp hhp).1; omega
            have htk : w'.take (j + 1) = w'.take j ++ [hp] := by rw [List.take_add_one, hhp]; rfl
            have G₉ : GE (hd.heap_39 p) mg mb s₉.heap := gE2 _ fun a o b => F₉.keep a o (hbk₉ a o b)
            have c1000 : c ≤ 1296 := by
              have hc : j = 0 ∨ j = 1 ∨ j = 2 ∨ j = 3 := by omega
              rcases hc with rfl | rfl | rfl | rfl <;> omega
            have hidx : ((hp.length : Int) - 1).toNat = hp.length - 1 := by omega
            have hget : ([.int 1, .int 1, .int 2, .int 6] : List D)[((hp.length : Int) - 1).toNat]? = some (D.int (([1, 1, 2, 6] : List Int).getD (hp.length - 1) 0)) ∧ 1 ≤ ([1, 1, 2, 6] : List Int).getD (hp.length - 1) 0 ∧ ([1, 1, 2, 6] : List Int).getD (hp.length - 1) 0 ≤ 6 := by
              rw [hidx]
              have hc : hp.length = 1 ∨ hp.length = 2 ∨ hp.length = 3 ∨ hp.length = 4 := by omega
              rcases hc with h | h | h | h <;> rw [h] <;> exact ⟨rfl, by decide, by decide⟩
            refine wpAny_execs_cons (F₉.assign (m₉.pos T₀) (.inl rfl) (d := .int (c * ([1, 1, 2, 6] : List Int).getD (hp.length - 1) 0)) (.mulI (F₉.ev (x := "count") (d := .int c) h5) (.itemL (.list F₉.new (.cons .int (.cons .int (.cons .int (.cons .int .nil)))) (by rw [sizeLine_eq]; decide))
              (.subI (.callB (d := .int hp.length) ⟨rfl, rfl, rfl⟩ G₉.gl rfl GMm.len.1 GMm.len.2 (.cons (F₉.ev (x := "heap") (d := dNats hp) rfl) .nil) fun s'' vs X T' r' => Gives.cast (.lenL r' (by rw [List.length_map, sizeLine_eq]; omega)) (by rw [List.length_map])) .int) (by omega) (by omega) hget.1) (.of_left (intBits_le_64 (by omega) (by omega)))) fun s₁₀ m₁₀ F₁₀ => ?_)
            refine wpAny_execs_nil ⟨.inl rfl, m₉.trans m₁₀, _, _, F₁₀, rfl, h1, h2, h3, h4, _, Int.mul_nonneg c0 (by omega), ?_, ?_, rfl⟩
            · rw [Int.pow_succ]
              exact Int.mul_le_mul c6 hget.2.2 (by omega) (by exact Int.pow_nonneg (by decide))
            · rw [htk, countF, List.foldl_append, cc]; rfl
          · rintro s' ρ' ac' m' F' ⟨rfl, h1, h2, h3, h4, c, c0, c6, cc, h5⟩
            rw [List.length_map, List.take_length] at cc
            exact ⟨rfl, ρ', m', F', h1, h2, h3, h4, by rw [h5, cc]⟩
        · obtain ⟨ρ₁₆, m16, F₁₆, h1, h2, h3, h4, h5⟩ := h₁₆
          obtain ⟨cw0, cw1⟩ := count_small w' hwmem
          refine wpAny_execs_cons (F₁₆.extend (m16.pos T₀) (List.mem_cons_self ..) (.mulL1 F₁₆.new (.list F₁₆.new (.cons (.count (F₁₆.ev (x := "name") (d := .str (dueName (endsF mark (sumsF st w')))) h4) .str) .nil) one_le) (F₁₆.ev (x := "count") (d := .int (countF w')) h5) cw0 (by omega))
            (by rw [List.length_map, List.length_replicate, sizeLine_eq]; have := rings_len st t0 k (by omega); omega) (by decide) fun s₁₇ m₁₇ F₁₇ => ?_)
          refine wpAny_execs_nil ⟨.inl rfl, m16.trans m₁₇, ps₁₂, _, _, F₁₇, ?_, hmore', fun _ => hfnd₁₂, htb', h1, h2, ?_⟩
          · refine put2r.trans ?_
            rw [rings_succ st t0 w' hw, ringOf, hmk, List.map_append, List.map_replicate]
          · rw [h3]
            show some (D.int _) = some (D.int _)
            congr 2
            push_cast; omega
    · rintro s' ps' ρ' ac' m' F' ⟨rfl, hmore, hfnd, htb, h1, h2, h3⟩
      have e15 : ((waysAt 4).map dWay).length = 15 := by rw [List.length_map]; decide
      rw [e15] at F' hfnd
      exact ⟨rfl, ps', ρ', m', F', hmore, hfnd (by decide), htb, h1, h2⟩
  obtain ⟨ps₈, ρ₈, m8, F₈0, hmore₈, hfnd₈, htb₈, h1, h2⟩ := h₈
  have F₈ : F.atBk (Bk3 (fun _ _ => False) s₀.heap ps₈) ((ρ₈.put "rings" (dInts (ringsUpto st t0 15))).put "lacks" (dInts ((ordersAt 4).map (lackF st)))) [] s₈.heap := by
    refine ((F₈0.freeze (x := "rings") (List.mem_cons_self ..) (by decide)).freeze (x := "lacks") (List.mem_singleton.mpr rfl) (by decide)).thaw F (fun b hb => ?_) fun e he => by cases he
    rcases hb with (hb | hb) | hb
    · exact hb.1.1
    · rw [hb]; exact Na₆.1
    · rw [hb]; exact Na₄
  clear F₈0
  have hg3 : ∀ (ps' : Array Value) h, (∀ a o, Bk3 (fun _ _ => False) s₀.heap ps' a o → h.get? a = some o) → GE (hd.heap_39 p) mg mb h := fun ps' h k' => env3g G₀ k'
  have G₈ := hg3 _ _ F₈.keep
  obtain ⟨srt, hs1, hs2⟩ := sorted_of ((ordersAt 4).map (lackF st))
  have hl24 : ((ordersAt 4).map (lackF st)).length = 24 := by rw [List.length_map]; decide
  have hsflat : ∀ d ∈ srt.map D.int, d.flat = true := fun d hd' => by
    obtain ⟨i, _, rfl⟩ := List.mem_map.mp hd'; rfl
  refine wpAny_execs_cons (F₈.ite (m8.pos T₀) (b := false) (.cmp (.callB (d := .list (srt.map D.int)) ⟨rfl, rfl, rfl⟩ G₈.gl rfl GMm.sorted.1 GMm.sorted.2 (.cons (F₈.ev (x := "lacks") (d := dInts ((ordersAt 4).map (lackF st))) rfl) .nil) fun s'' vs X T' r' => ?_)
    (.callB (d := .list (srt.map D.int)) ⟨rfl, rfl, rfl⟩ G₈.gl rfl GMm.sorted.1 GMm.sorted.2 (.cons (F₈.ev (x := "rings") (d := dInts (ringsUpto st t0 15)) rfl) .nil) fun s'' vs X T' r' => ?_) (.neL hsflat rm'.cline)) (fun h => by cases h) fun _ s₉ m₉ F₉ => ?_)
  · obtain ⟨v, rfl, r1⟩ := r'.one
    exact .sorted (F₈.grow X).new (.ofL r1) (by omega) hs1 hs2
  · obtain ⟨v, rfl, r1⟩ := r'.one
    exact .sorted (F₈.grow X).new (.ofL r1) (by rw [← LF.spitz.length_eq]; omega) (hs1.trans LF.spitz) hs2
  have m9 := m8.trans m₉
  refine wpAny_execs_nil ?_
  have G₉ := hg3 _ _ F₉.keep
  obtain ⟨b1, b2, b3⟩ := LF.bal [0, 1, 2, 3] (by decide)
  generalize hlf : lineF st [0, 1, 2, 3] = fb at b1 b2 b3
  obtain ⟨f0, b0⟩ := fb
  replace b1 : f0 ≤ 12 := b1
  replace b2 : b0 ≤ 12 := b2
  have hp1 := LF.p1
  have hp2 := LF.p2
  have hp3 := LF.p3
  have hp4 := LF.p4
  have hln : lastName st = Txt.mul "known" ((f0 : Int) + st.sum) ++ Txt.mul "un" (f0 : Int) := by unfold lastName; rw [hlf]
  rw [hlf] at hp1 hp2 hp3 hp4
  have hsumb : -12 ≤ (f0 : Int) + st.sum ∧ (f0 : Int) + st.sum ≤ 12 := by
    have : lackF st [0, 1, 2, 3] = (f0 : Int) + st.sum := by unfold lackF; rw [hlf]
    rw [this] at b3
    have : (((f0, b0) : Nat × Nat).2 : Int) = b0 := rfl
    omega
  refine wpAny_execs_cons (F₉.assign (m9.pos T₀) (.inr ⟨rfl, rfl, _, rfl⟩) (d := .str (padded f0 b0)) (.callF ⟨rfl, rfl, rfl⟩ G₉.gl rfl GMm.line (G₉.k 59 _ rfl) rfl (.cons (F₉.ev (d := dInts st) h1) (.cons (.list F₉.new (.cons .int (.cons .int (.cons .int (.cons .int .nil)))) (by rw [sizeLine_eq]; decide)) (.cons (F₉.ev (d := .str inkS) h2) .nil)))
    fun s'' vs X T' r' => Gives.cast (c_line (order := [0, 1, 2, 3]) GMm (G₉.ext X) (rm'.le (by omega)) (F₉.grow X).new T' r' (fun k hk => by rw [LF.len]; exact orders_lt [0, 1, 2, 3] (by decide) k hk) LF.rng (by decide) (by rw [LF.len]; omega)) (by rw [hlf])) fun s₁₀ m₁₀ F₁₀ => ?_)
  have m10 := m9.trans m₁₀
  refine wpAny_execs_cons (F₁₀.assign (m10.pos T₀) (.inl rfl) (d := .int (f0 : Int)) (Ev.cast (.find (F₁₀.ev (x := "line") (d := .str (padded f0 b0)) rfl) (F₁₀.ev (d := .str inkS) h2)) (by rw [LF.find _ _ b1 b2])) fun s₁₁ m₁₁ F₁₁ => ?_)
  have m11 := m10.trans m₁₁
  have G₁₁ := hg3 _ _ F₁₁.keep
  refine wpAny_execs_cons (F₁₁.assign (m11.pos T₀) (.inl rfl) (d := .str (wordF st)) (.join .str (Ev.cast (.comp (cl := []) (ρc := fun _ => none) (ds := st.map D.int) ⟨rfl, fun c hc => (by cases hc), rfl, by decide, by decide, fun x d e => (by cases e)⟩ F₁₁.new F₁₁.vars F₁₁.cells (.list rm'.hh (F₁₁.ev (d := dInts st) h1))
    (.one (fun _ => true) (fun d => match d with | .int x => .str (Txt.mul "un" (mx (0 - x) 0) ++ Txt.mul "known" (mx x 0)) | d => d) (fun C => .name (.inl rfl)) (fun _ _ => trivial) (fun _ => rfl) (fun d ρ ρ' _ h => h.put _ _) (fun d ρ' _ h => h.skip _ rfl) (by rw [List.length_map, LF.len, sizeLine_eq]; omega) ?_)) ?_) ?_) fun s₁₂ m₁₂ F₁₂ => ?_)
  · intro C Bk N ad ac s d hd' F X T
    obtain ⟨x, hx, rfl⟩ := List.mem_map.mp hd'
    obtain ⟨x1, x2⟩ := LF.rng x hx
    have Gx := G₁₁.ext X
    have q1 : 0 ≤ mx (0 - x) 0 ∧ mx (0 - x) 0 ≤ 3 := by unfold mx; split <;> omega
    have q2 : 0 ≤ mx x 0 ∧ mx x 0 ≤ 3 := by unfold mx; split <;> omega
    exact ⟨.none, fun _ => .addS (.mulS .str (.callB ⟨rfl, rfl, rfl⟩ Gx.gl rfl GMm.max.1 GMm.max.2 (.cons (.subI .int (F.ev (x := "step") (d := .int x) rfl)) (.cons .int .nil)) fun s'' vs X T' r' => .max2 rm'.hh r') (mul_ok (by omega) (by omega) (by decide)))
      (.mulS .str (.callB ⟨rfl, rfl, rfl⟩ Gx.gl rfl GMm.max.1 GMm.max.2 (.cons (F.ev (x := "step") (d := .int x) rfl) (.cons .int .nil)) fun s'' vs X T' r' => .max2 rm'.hh r') (mul_ok (by omega) (by omega) (by decide)))
      (by rw [mul_len, mul_len, show ("un" : Str).length = 2 from by decide, show ("known" : Str).length = 5 from by decide, sizeLine_eq]; omega)⟩
  · show D.list _ = D.list _
    congr 1
    rw [List.filter_eq_self.mpr (fun _ _ => rfl), List.map_map, List.map_map]; rfl
  · have hs1 := sum_le (st.map fun x => Txt.mul "un" (mx (0 - x) 0) ++ Txt.mul "known" (mx x 0)) 21 fun e he => by
      obtain ⟨x, hx, rfl⟩ := List.mem_map.mp he
      obtain ⟨x1, x2⟩ := LF.rng x hx
      have q1 : 0 ≤ mx (0 - x) 0 ∧ mx (0 - x) 0 ≤ 3 := by unfold mx; split <;> omega
      have q2 : 0 ≤ mx x 0 ∧ mx x 0 ≤ 3 := by unfold mx; split <;> omega
      rw [len_append, mul_len, mul_len, show ("un" : Str).length = 2 from by decide, show ("known" : Str).length = 5 from by decide]; omega
    rw [List.length_map, LF.len] at hs1
    refine joinOk_of ?_
    rw [show ("" : Str).length = 0 from by decide, Nat.mul_zero]
    exact Nat.le_trans hs1 (by decide)
  have m12 := m11.trans m₁₂
  obtain ⟨g12, bm12, t12⟩ := env3 G₀ BM₀ hbm F₁₂.keep htb₈
  obtain ⟨rr, mm, htidy, hf1, hf2, hrr⟩ := LF.word
  refine wpAny_execs_cons (Assign_Tuple (callF_any ⟨rfl, rfl, rfl⟩ g12.gl rfl GMm.tidied (g12.k 69 _ rfl) rfl (m12.pos T₀) (.cons (.list F₁₂.new (.cons (F₁₂.ev (x := "word") (d := .str (wordF st)) rfl) .nil) one_le) (.cons .str .nil)) fun vs s₁₃ g₁₃ r₁₃ => ?_) rfl rfl)
  refine c_tidied (N := N') (texts := [wordF st]) (mark := "") GMm (bm12.keeps g₁₃.keep) hbm (g12.ext g₁₃.keep) (rm'.le (by omega)) (F₁₂.grow g₁₃.keep).new hN' ((m12.trans g₁₃.sm).pos T₀) (t12.keeps g₁₃.keep) r₁₃ htidy fun v s₁₄ ps₁₄ keep tb₁₄ hmore₁₄ hfnd₁₄ m₁₄ r₁₄ => ?_
  have F₁₄ := (F₁₂.grow g₁₃.keep).re163 (fun _ _ h => h.elim) rfl hN' keep tb₁₄.tab.2
  have m14 := (m12.trans g₁₃.sm).trans m₁₄
  have hmore' : ∃ more, ps₁₄ = ps ++ more := by
    obtain ⟨a, ha⟩ := hmore₈
    obtain ⟨b, hb⟩ := hmore₁₄
    exact ⟨a ++ b, by rw [hb, ha, Array.append_assoc]⟩
  have htb' : ∃ h₁, Tb 20 16 ps₁₄ h₁ ∧ ∀ o, h₁.get? 20 = some o → s₀.heap.get? 20 = some o := ⟨_, tb₁₄, fun o e => by
    obtain ⟨oc, hoc⟩ : ∃ o, s₀.heap.get? 20 = some o := ⟨_, G₀.k 20 _ rfl⟩
    rw [keep 20 oc (by decide) (g₁₃.keep _ _ (F₁₂.keep 20 oc (.inl ⟨hoc, by decide⟩)))] at e
    rw [hoc]; exact e⟩
  refine setTup rm'.hh (.inl rfl) (.inl rfl) (by decide) _ _ F₁₄ r₁₄ fun s₁₅ m₁₅ F₁₅ => ?_
  have m15 := m14.trans m₁₅
  generalize hname : lastName st = name at F₁₅ hln hp1 hp2 hp3 hp4
  have hnl : name.length ≤ 200 := by
    rw [hln, len_append, mul_len, mul_len, show ("un" : Str).length = 2 from by decide, show ("known" : Str).length = 5 from by decide]; omega
  have G₁₅ := hg3 _ _ F₁₅.keep
  refine wpAny_execs_cons (F₁₅.ite (m15.pos T₀) (b := false) (.cast (.of_all (.or_cons (.cmp (F₁₅.ev (x := "name") (d := .str name) rfl) (.addS (.mulS .str (.addI (F₁₅.ev (x := "front") (d := .int (f0 : Int)) rfl) (.callB (d := .int st.sum) ⟨rfl, rfl, rfl⟩ G₁₅.gl rfl GMm.sum.1 GMm.sum.2 (.cons (F₁₅.ev (d := dInts st) h1) .nil) fun s'' vs X T' r' => hsum0 _ rm'.hh _ s'' st vs r')) (mul_ok (by omega) (by omega) (by decide)))
      (.mulS .str (F₁₅.ev (x := "front") (d := .int (f0 : Int)) rfl) (mul_ok (by omega) (by omega) (by decide))) ?_) .neS) fun _ =>
    .or_cons (.cmp (F₁₅.ev (x := "rounds") (d := .int rr) rfl) (.callB (d := .int (mx mm 1)) ⟨rfl, rfl, rfl⟩ G₁₅.gl rfl GMm.max.1 GMm.max.2 (.cons (.callF (d := .int mm) ⟨rfl, rfl, rfl⟩ G₁₅.gl rfl GMm.fall (G₁₅.k 64 _ rfl) rfl (.cons (F₁₅.ev (d := dInts st) h1) .nil)
      fun s'' vs X T' r' => c_fall GMm (G₁₅.ext X) (rm'.le (by omega)) (F₁₅.grow X).new T' r' LF.len hf1 hf2) (.cons .int .nil)) fun s'' vs X T' r' => .max2 rm'.hh r') .neI) fun _ => .or_nil)) ?_) (fun h => by cases h) fun _ s₁₆ m₁₆ F₁₆ => ?_)
  · rw [mul_len, mul_len, show ("un" : Str).length = 2 from by decide, show ("known" : Str).length = 5 from by decide, sizeLine_eq]; omega
  · rw [← hln, hrr]; simp
  have m16 := m15.trans m₁₆
  refine wpAny_execs_nil ?_
  have hmn1 : 0 ≤ mn (name.length : Int) 1 ∧ mn (name.length : Int) 1 ≤ 1 := by unfold mn; split <;> omega
  have hd1 : (Txt.mul ("-" : Str) (mn (name.length : Int) 1)).length ≤ 1 := by rw [mul_len, show ("-" : Str).length = 1 from by decide]; omega
  have hx8 : ("x__\tY.+@" : Str).length = 8 := by decide
  have htl : (tailF name).length ≤ 300 := by unfold tailF; rw [len_append, len_append, hx8]; omega
  have G₁₆ := hg3 _ _ F₁₆.keep
  refine wpAny_execs_cons (F₁₆.assign (m16.pos T₀) (.inl rfl) (d := .str (tailF name)) (.addS (.addS .str (.mulS .str (.callB (d := .int (mn name.length 1)) ⟨rfl, rfl, rfl⟩ G₁₆.gl rfl GMm.min.1 GMm.min.2 (.cons (.callB (d := .int name.length) ⟨rfl, rfl, rfl⟩ G₁₆.gl rfl GMm.len.1 GMm.len.2 (.cons (F₁₆.ev (x := "name") (d := .str name) rfl) .nil)
    fun s'' vs X T' r' => .lenS r' (by rw [sizeLine_eq]; omega)) (.cons .int .nil)) fun s'' vs X T' r' => .min2 rm'.hh r') (mul_ok (by omega) (by omega) (by decide))) (by rw [hx8, sizeLine_eq]; omega)) (F₁₆.ev (x := "name") (d := .str name) rfl) (by rw [len_append, hx8, sizeLine_eq]; omega)) fun s₁₇ m₁₇ F₁₇ => ?_)
  have m17 := m16.trans m₁₇
  have plat : ∀ {A' : Around} (h : Heap), Rm A' 2 → (∀ a o, Bk3 (fun _ _ => False) s₀.heap ps₁₄ a o → h.get? a = some o) → New N' h → ∀ (xs : List Str) (y : Str), Plat xs y → ∀ (s'' : Shared) vs, Ext h s''.heap → 0 < s''.toks → RepL N' s''.heap (xs.map D.str) vs → Gives prog w A' N' (.str y) (call (.ref 21) vs) s'' := fun h rmA k' hNh xs y hpl s'' vs X T' r' => by
    obtain ⟨gh, bh, th⟩ := env3 G₀ BM₀ hbm k' htb'
    exact c_platP GMm (bh.keeps X) hbm (gh.ext X) rmA (fun a ha => hNh a (Ext.new X ha)) hN' T' (th.keeps X) hfnd₁₄ r' hpl
  have rm2 := rm'.le (m := 2) (by omega)
  have G₁₇ := hg3 _ _ F₁₇.keep
  refine wpAny_execs_cons (F₁₇.ite (m17.pos T₀) (b := false) (.cast (.of_all (.or_cons (.cmp (.callF (d := .str (tailF name)) ⟨rfl, rfl, rfl⟩ G₁₇.gl rfl GMm.platform (G₁₇.k 21 _ rfl) rfl (.cons (F₁₇.ev (x := "line") (d := .str (padded f0 b0)) rfl) (.cons (F₁₇.ev (x := "name") (d := .str name) rfl) .nil)) fun s'' vs X T' r' => plat _ rm2 F₁₇.keep F₁₇.new [padded f0 b0, name] _ hp1 s'' vs X T' r') (F₁₇.ev (x := "tail") (d := .str (tailF name)) rfl) .neS) fun _ =>
    .or_cons (.cmp (.callF (d := .str ("-" ++ tailF name)) ⟨rfl, rfl, rfl⟩ G₁₇.gl rfl GMm.platform (G₁₇.k 21 _ rfl) rfl (.cons .str (.cons (F₁₇.ev (x := "line") (d := .str (padded f0 b0)) rfl) (.cons (F₁₇.ev (x := "name") (d := .str name) rfl) .nil))) fun s'' vs X T' r' => plat _ rm2 F₁₇.keep F₁₇.new [" ", padded f0 b0, name] _ hp2 s'' vs X T' r')
      (.addS .str (F₁₇.ev (x := "tail") (d := .str (tailF name)) rfl) (by rw [show ("-" : Str).length = 1 from by decide, sizeLine_eq]; omega)) .neS) fun _ => .or_nil)) (by simp)) (fun h => by cases h) fun _ s₁₈ m₁₈ F₁₈ => wpAny_execs_nil ?_)
  have m18 := m17.trans m₁₈
  have G₁₈ := hg3 _ _ F₁₈.keep
  refine wpAny_execs_cons (F₁₈.ite (m18.pos T₀) (b := false) (.cast (.cmp (.callF (d := .str ("-" ++ tailF name)) ⟨rfl, rfl, rfl⟩ G₁₈.gl rfl GMm.platform (G₁₈.k 21 _ rfl) rfl (.cons .str (.cons (F₁₈.ev (x := "line") (d := .str (padded f0 b0)) rfl) (.cons (F₁₈.ev (x := "name") (d := .str name) rfl) .nil))) fun s'' vs X T' r' => plat _ rm2 F₁₈.keep F₁₈.new ["unknown", padded f0 b0, name] _ hp3 s'' vs X T' r')
      (.addS .str (F₁₈.ev (x := "tail") (d := .str (tailF name)) rfl) (by rw [show ("-" : Str).length = 1 from by decide, sizeLine_eq]; omega)) .neS) (by simp)) (fun h => by cases h) fun _ s₁₉ m₁₉ F₁₉ => wpAny_execs_nil ?_)
  have m19 := m18.trans m₁₉
  have G₁₉ := hg3 _ _ F₁₉.keep
  refine wpAny_execs_cons (F₁₉.ite (m19.pos T₀) (b := false) (.cast (.cmp (.callF (d := .str ("Unknown-" ++ tailF name)) ⟨rfl, rfl, rfl⟩ G₁₉.gl rfl GMm.platform (G₁₉.k 21 _ rfl) rfl (.cons (.callF (d := .str (blankF "Unknown")) ⟨rfl, rfl, rfl⟩ G₁₉.gl rfl GMm.blank (G₁₉.k 28 _ rfl) rfl (.cons .str .nil) fun s'' vs X T' r' => c_blank (G₁₉.ext X) (rm'.le (by omega)) (F₁₉.grow X).new T' r')
      (.cons (F₁₉.ev (x := "line") (d := .str (padded f0 b0)) rfl) (.cons (F₁₉.ev (x := "name") (d := .str name) rfl) .nil))) fun s'' vs X T' r' => plat _ rm2 F₁₉.keep F₁₉.new [blankF "Unknown", padded f0 b0, name] _ hp4 s'' vs X T' r')
      (.addS .str (F₁₉.ev (x := "tail") (d := .str (tailF name)) rfl) (by rw [show ("Unknown-" : Str).length = 8 from by decide, sizeLine_eq]; omega)) .neS) (by simp)) (fun h => by cases h) fun _ s₂₀ m₂₀ F₂₀ => wpAny_execs_nil ?_)
  have m20 := m19.trans m₂₀
  have G₂₀ := hg3 _ _ F₂₀.keep
  have hrf : ∀ d ∈ [D.str (padded f0 b0), D.str inkS, D.str inkS], d.flat = true := fun d hd' => by
    simp only [List.mem_cons, List.not_mem_nil, or_false] at hd'
    rcases hd' with rfl | rfl | rfl <;> rfl
  refine wpAny_execs_cons (F₂₀.ret (m20.pos T₀) (d := .bool true) (.cmp (Ev.cast (.comp (cl := [("line", L + 2)]) (ρc := Vars.of [("line", .str (padded f0 b0))]) (ds := [.int 0, .int (-1), .int 99]) ⟨rfl, fun c hc => by rw [List.mem_singleton.mp hc]; exact .head _, rfl, by decide, by decide, fun x d e => by obtain ⟨rfl, rfl⟩ := of_one e; exact ⟨rfl, rfl, rfl, rfl⟩⟩ F₂₀.new F₂₀.vars F₂₀.cells
      (.list rm'.hh (.list F₂₀.new (.cons .int (.cons (.neg .int) (.cons .int .nil))) (by rw [sizeLine_eq]; decide)))
      (.one (fun _ => true) (fun d => match d with | .int n => .str (padded (f0 - takeN n f0) (b0 - takeN (n - takeN n f0) b0)) | d => d) (fun C => .name (.inl rfl)) (fun _ _ => trivial) (fun _ => rfl) (fun d ρ ρ' _ h => h.put _ _) (fun d ρ' _ h => h.skip _ rfl) (by rw [sizeLine_eq]; decide) ?_)) ?_)
    (.list F₂₀.new (.cons (F₂₀.ev (x := "line") (d := .str (padded f0 b0)) rfl) (.cons (F₂₀.ev (d := .str inkS) h2) (.cons (F₂₀.ev (d := .str inkS) h2) .nil))) three_le) (.eqL hrf rm'.cline)) fun v s₂₁ m₂₁ F₂₁ r₂₁ => ?_)
  · intro C Bk N ad ac s d hd' F X T
    refine ⟨.none, fun _ => ?_⟩
    have Gx := G₂₀.ext X
    simp only [List.mem_cons, List.not_mem_nil, or_false] at hd'
    rcases hd' with rfl | rfl | rfl
    · exact .callF ⟨rfl, rfl, rfl⟩ Gx.gl rfl GMm.strip (Gx.k 35 _ rfl) rfl (.cons (F.ev (x := "line") (d := .str (padded f0 b0)) rfl) (.cons (F.ev (x := "amount") rfl) .nil)) fun s'' vs X' T' r' => c_strip GMm (Gx.ext X') (rm'.le (by omega)) (F.grow X').new T' r' (by omega) (by omega)
    · exact .callF ⟨rfl, rfl, rfl⟩ Gx.gl rfl GMm.strip (Gx.k 35 _ rfl) rfl (.cons (F.ev (x := "line") (d := .str (padded f0 b0)) rfl) (.cons (F.ev (x := "amount") rfl) .nil)) fun s'' vs X' T' r' => c_strip GMm (Gx.ext X') (rm'.le (by omega)) (F.grow X').new T' r' (by omega) (by omega)
    · exact .callF ⟨rfl, rfl, rfl⟩ Gx.gl rfl GMm.strip (Gx.k 35 _ rfl) rfl (.cons (F.ev (x := "line") (d := .str (padded f0 b0)) rfl) (.cons (F.ev (x := "amount") rfl) .nil)) fun s'' vs X' T' r' => c_strip GMm (Gx.ext X') (rm'.le (by omega)) (F.grow X').new T' r' (by omega) (by omega)
  · obtain ⟨e1, e2, e3⟩ := strip3 b1 b2
    show D.list [.str _, .str _, .str _] = _
    rw [e1, e2, e3]
  · rw [Rep.bool_iff.mp r₂₁]
    obtain ⟨_, _, tF⟩ := env3 G₀ BM₀ hbm F₂₁.keep htb'
    exact ⟨_, rfl, q s₂₁ ps₁₄ (fun b o hb e => F₂₁.keep b o (.inl ⟨g₀.keep b o e, hb⟩)) tF hmore' ((g₀.sm.trans mB).trans (m20.trans m₂₁))⟩
end
end Mine

end

-- part P1
section
open PySem PySem.W PyProof.Rows
open PySem.Builtin PySem.Builtin.Str PySem.StrLaws
set_option Elab.async false
set_option linter.unusedVariables false
set_option maxRecDepth 100000
set_option pp.deepTerms false
set_option pp.maxSteps 1500
namespace Mine

abbrev strL (l : List Nat) : Str := ⟨l.toArray⟩
theorem strL_of (x : Str) : strL x.cps.toList = x := by cases x; simp [strL]

/-- the scan from left to right: what a replacement makes -/
inductive Scan (pat new : List Nat) : List Nat → List Nat → Prop
  | nil : Scan pat new [] []
  | hit {r r' : List Nat} : Scan pat new r r' → Scan pat new (pat ++ r) (new ++ r')
  | miss {c : Nat} {r r' : List Nat} : ¬ pat <+: (c :: r) → Scan pat new r r' → Scan pat new (c :: r) (c :: r')

theorem at_iff {x y : Str} (hw : 1 ≤ y.length) (k : Nat) : At x y x.length k ↔ y.cps.toList <+: x.cps.toList.drop k := by
  unfold At
  rw [subAt_eq, List.prefix_iff_eq_take, beq_iff_eq, ← len_list y]
  have hx := len_list x
  have hy := len_list y
  constructor
  · rintro ⟨_, h⟩; exact h.symm
  · intro h
    refine ⟨?_, h.symm⟩
    have h1 := congrArg List.length h
    rw [List.length_take, List.length_drop, ← hx, ← hy] at h1
    omega
theorem drop_succ_of {l r : List Nat} {a c : Nat} (h : l.drop a = c :: r) : l.drop (a + 1) = r ∧ a + 1 ≤ l.length := by
  constructor
  · rw [← List.drop_drop, h]; rfl
  · have := congrArg List.length h
    simp at this; omega
theorem sub_cons {x : Str} {r : List Nat} {a c b : Nat} (h : x.cps.toList.drop a = c :: r) (hb : a + 1 ≤ b) : (strSub x a b).cps.toList = c :: (strSub x (a + 1) b).cps.toList := by
  rw [strSub_toList, strSub_toList, h, (drop_succ_of h).1, show b - a = (b - (a + 1)) + 1 from by omega, List.take_succ_cons]
theorem join_cons_list (z p : Str) {q : List Str} (h : q ≠ []) : (Str.join z (p :: q)).cps.toList = p.cps.toList ++ z.cps.toList ++ (Str.join z q).cps.toList := by
  cases q with
  | nil => exact absurd rfl h
  | cons a q =>
    show (p ++ z ++ Str.join z (a :: q)).cps.toList = _
    rw [append_list, append_list]

theorem scan_parts (x y z : Str) (hw : 1 ≤ y.length) {l l' : List Nat} (H : Scan y.cps.toList z.cps.toList l l') : ∀ a cuts f, x.cps.toList.drop a = l → a ≤ x.length → ChainG x y x.length a cuts f → (∀ k, f ≤ k → ¬ At x y x.length k) →
    (Str.join z (partsFrom x y.length a cuts)).cps.toList = l' := by
  have hy := len_list y
  have hx := len_list x
  induction H with
  | nil =>
    intro a cuts f e ha hc hn
    have : x.length ≤ a := by
      rw [hx]; exact List.drop_eq_nil_iff.mp e
    cases cuts with
    | nil =>
      show (strSub x a x.length).cps.toList = _
      rw [strSub_toList, e]; exact List.take_nil
    | cons c r =>
      have h1 := hc.1
      have h2 := hc.2.1.1
      omega
  | @hit r r' _ ih =>
    intro a cuts f e ha hc hn
    have hA : At x y x.length a := (at_iff hw a).mpr (by rw [e]; exact List.prefix_append ..)
    cases cuts with
    | nil =>
      have ef : f = a := hc
      exact absurd hA (hn a (by omega))
    | cons c rr =>
      have hca : c = a := by
        have h1 := hc.1
        by_cases h : a < c
        · exact absurd hA (hc.2.2.1 a (Nat.le_refl _) h)
        · omega
      subst hca
      have hlen := hA.1
      have := ih (c + y.length) rr f (by rw [← List.drop_drop, e, hy, List.drop_left]) (by omega) hc.2.2.2 hn
      obtain ⟨p, q, e2⟩ := partsFrom_ne x y.length (c + y.length) rr
      show (Str.join z (strSub x c c :: partsFrom x y.length (c + y.length) rr)).cps.toList = _
      rw [join_cons_list z _ (by rw [e2]; exact fun h => nomatch h), this, strSub_toList, Nat.sub_self]; rfl
  | @miss c r r' hp _ ih =>
    intro a cuts f e ha hc hn
    have hA : ¬ At x y x.length a := fun h => hp (by rw [← e]; exact (at_iff hw a).mp h)
    obtain ⟨d1, d2⟩ := drop_succ_of e
    rw [← hx] at d2
    cases cuts with
    | nil =>
      have ef : f = a := hc
      have := ih (a + 1) [] (a + 1) d1 d2 rfl (fun k hk => hn k (by omega))
      show (strSub x a x.length).cps.toList = _
      rw [sub_cons e d2]
      exact congrArg (c :: ·) this
    | cons d rr =>
      have h1 := hc.1
      have hd : a + 1 ≤ d := by
        by_cases h : a = d
        · subst h; exact absurd hc.2.1 hA
        · omega
      have := ih (a + 1) (d :: rr) f d1 d2 ⟨hd, hc.2.1, fun k h2 h3 => hc.2.2.1 k (by omega) h3, hc.2.2.2⟩ hn
      obtain ⟨p, q, e2⟩ := partsFrom_ne x y.length (d + y.length) rr
      have hne : partsFrom x y.length (d + y.length) rr ≠ [] := by rw [e2]; exact fun h => nomatch h
      show (Str.join z (strSub x a d :: partsFrom x y.length (d + y.length) rr)).cps.toList = _
      have e3 : (Str.join z (strSub x (a + 1) d :: partsFrom x y.length (d + y.length) rr)).cps.toList = r' := this
      rw [join_cons_list z _ hne] at e3 ⊢
      rw [sub_cons e hd]
      exact congrArg (c :: ·) e3

theorem replace_scan {x y z : Str} (hw : 1 ≤ y.length) {l' : List Nat} (H : Scan y.cps.toList z.cps.toList x.cps.toList l') : Txt.replace x y z = strL l' := by
  obtain ⟨f, hG, hn⟩ := occ_tight x y hw
  have key := scan_parts x y z hw H 0 _ f rfl (Nat.zero_le _) hG hn
  have hy0 : (y.length == 0) = false := by simp; omega
  apply Str.ext_list
  show _ = l'
  rw [← key]
  unfold Txt.replace
  rw [hy0, Bool.false_and, Bool.or_false]
  split
  · rename_i he
    rw [List.isEmpty_iff.mp he]
    show _ = (strSub x 0 x.length).cps.toList
    rw [sub_whole]
  · rw [glued_eq_join, partsBetween_eq]

theorem scan_ex (pat new : List Nat) (h : pat ≠ []) : ∀ (n : Nat) (l : List Nat), l.length ≤ n → ∃ l', Scan pat new l l'
  | 0, l, hl => by
    have : l = [] := List.length_eq_zero_iff.mp (by omega)
    subst this; exact ⟨[], .nil⟩
  | n + 1, l, hl => by
    by_cases hp : pat <+: l
    · obtain ⟨r, rfl⟩ := hp
      have hpl : 0 < pat.length := List.length_pos_iff.mpr h
      rw [List.length_append] at hl
      obtain ⟨r', hr⟩ := scan_ex pat new h n r (by omega)
      exact ⟨_, .hit hr⟩
    · cases l with
      | nil => exact ⟨[], .nil⟩
      | cons c r =>
        obtain ⟨r', hr⟩ := scan_ex pat new h n r (by simpa using hl)
        exact ⟨_, .miss hp hr⟩

theorem scan_one (c d : Nat) : ∀ l : List Nat, Scan [c] [d] l (l.map fun k => if k = c then d else k)
  | [] => .nil
  | k :: r => by
    rw [List.map_cons]
    by_cases h : k = c
    · rw [if_pos h, h]; exact .hit (scan_one c d r)
    · rw [if_neg h]; exact .miss (fun ⟨t, e⟩ => h (by injection e with e1; exact e1.symm)) (scan_one c d r)

theorem replace_chr (x : Str) (c d : Nat) : Txt.replace x ⟨#[c]⟩ ⟨#[d]⟩ = strL (x.cps.toList.map fun k => if k = c then d else k) :=
  replace_scan (y := ⟨#[c]⟩) (z := ⟨#[d]⟩) (Nat.le_refl 1) (scan_one c d _)

/-- a sign that the pattern lacks parts the scan -/
theorem scan_sep {pat new : List Nat} {s : Nat} (hs : s ∉ pat) (hne : pat ≠ []) {a a' b b' : List Nat} (H : Scan pat new a a') (H2 : Scan pat new b b') : Scan pat new (a ++ s :: b) (a' ++ s :: b') := by
  induction H with
  | nil => exact .miss (fun ⟨t, e⟩ => by
      cases pat with
      | nil => exact hne rfl
      | cons p q => injection e with e1; exact hs (e1 ▸ List.mem_cons_self ..)) H2
  | @hit r r' _ ih =>
    rw [List.append_assoc, List.append_assoc]
    exact .hit ih
  | @miss c r r' hp _ ih =>
    refine .miss (fun h => hp ?_) ih
    rw [List.prefix_iff_eq_take] at h ⊢
    have h : pat = List.take pat.length ((c :: r) ++ s :: b) := h
    have hL := congrArg List.length h
    rw [List.length_take] at hL
    by_cases hl : pat.length ≤ (c :: r).length
    · rw [List.take_append_of_le_length hl] at h; exact h
    · exfalso
      apply hs
      rw [h, List.mem_iff_getElem?]
      refine ⟨(c :: r).length, ?_⟩
      rw [List.getElem?_take_of_lt (by omega), List.getElem?_append_right (Nat.le_refl _), Nat.sub_self]; rfl
theorem scan_front {pat new : List Nat} {s : Nat} (hs : s ∉ pat) (hne : pat ≠ []) {b b' : List Nat} (H2 : Scan pat new b b') : Scan pat new (s :: b) (s :: b') := scan_sep hs hne .nil H2

/-- the last letter off -/
theorem slice_last {x : Str} (h : x.length ≠ 0) : Txt.slice x none (some (-1)) = strL x.cps.toList.dropLast := by
  have := slice_closes_to_neg (x := x) (j := -1) (k := -1 + x.length) (by decide) (by omega) rfl
  rw [eq_of_beq this]
  show strL _ = strL _
  congr 1
  rw [List.dropLast_eq_take, show (0 : Int).toNat = 0 from rfl, List.drop_zero, ← len_list, show (-1 + (x.length : Int) - 0).toNat = x.length - 1 from by omega]
theorem item_last {x : Str} {l : List Nat} {c : Nat} (e : x.cps.toList = l ++ [c]) : Txt.item x (-1) = ⟨#[c]⟩ := by
  have hl : x.length = l.length + 1 := by rw [len_list, e, List.length_append]; rfl
  have := item_closes_neg (x := x) (i := -1) (j := -1 + x.length) (by decide) (by omega) rfl
  rw [eq_of_beq this]
  have e1 : (-1 + (x.length : Int)).toNat = l.length := by omega
  rw [e1, Array.getD_eq_getD_getElem?, ← Array.getElem?_toList, e, List.getElem?_append_right (Nat.le_refl _), Nat.sub_self]; rfl
end Mine

end

-- part P2
section
open PySem PySem.W PyProof.Rows
open PySem.Builtin PySem.Builtin.Str PySem.StrLaws
set_option Elab.async false
set_option linter.unusedVariables false
set_option maxRecDepth 100000
set_option pp.deepTerms false
set_option pp.maxSteps 1500
namespace Mine

def unk : List Nat := [117, 110, 107, 110, 111, 119, 110]
def red (l : List Nat) : List Nat := (Txt.replace (strL l) "unknown" "").cps.toList
theorem unk_list : ("unknown" : Str).cps.toList = unk := by decide
theorem none_list : ("" : Str).cps.toList = [] := by decide
theorem unk_ne : unk ≠ [] := by decide
theorem red_of {l l' : List Nat} (H : Scan unk [] l l') : red l = l' := by
  unfold red
  rw [replace_scan (x := strL l) (y := "unknown") (z := "") (l' := l') (by decide) (by rw [unk_list, none_list]; exact H)]
theorem red_scan (l : List Nat) : Scan unk [] l (red l) := by
  obtain ⟨l', h⟩ := scan_ex unk [] unk_ne l.length l (Nat.le_refl _)
  rw [red_of h]; exact h
theorem red_str (l : List Nat) : Txt.replace (strL l) "unknown" "" = strL (red l) := by
  obtain ⟨l', h⟩ := scan_ex unk [] unk_ne l.length l (Nat.le_refl _)
  rw [red_of h]
  exact replace_scan (x := strL l) (y := "unknown") (z := "") (by decide) (by rw [unk_list, none_list]; exact h)
theorem red_nil : red [] = [] := red_of .nil
theorem red_sep (a b : List Nat) : red (a ++ 45 :: b) = red a ++ 45 :: red b := red_of (scan_sep (by decide) unk_ne (red_scan a) (red_scan b))
theorem red_front (b : List Nat) : red (45 :: b) = 45 :: red b := red_of (scan_front (by decide) unk_ne (red_scan b))
theorem scan_sub {pat l l' : List Nat} (H : Scan pat [] l l') : (∀ k ∈ l', k ∈ l) ∧ l'.length ≤ l.length := by
  induction H with
  | nil => exact ⟨fun _ h => h, Nat.le_refl _⟩
  | @hit r r' _ ih => exact ⟨fun k h => List.mem_append_right _ (ih.1 k h), by rw [List.length_append, List.length_append]; have := ih.2; simp only [List.length_nil]; omega⟩
  | @miss c r r' _ _ ih =>
    refine ⟨fun k h => ?_, by rw [List.length_cons, List.length_cons]; have := ih.2; omega⟩
    rcases List.mem_cons.mp h with rfl | h
    · exact List.mem_cons_self ..
    · exact List.mem_cons_of_mem _ (ih.1 k h)
theorem red_mem {l : List Nat} {k : Nat} (h : k ∈ red l) : k ∈ l := (scan_sub (red_scan l)).1 k h
theorem red_len (l : List Nat) : (red l).length ≤ l.length := (scan_sub (red_scan l)).2
theorem scan_found {pat l l' : List Nat} (hne : pat ≠ []) (H : Scan pat [] l l') : (l' = l ∧ ∀ k, ¬ pat <+: l.drop k) ∨ (l'.length < l.length ∧ ∃ k, pat <+: l.drop k) := by
  have hp0 : 0 < pat.length := List.length_pos_iff.mpr hne
  induction H with
  | nil => exact .inl ⟨rfl, fun k h => by rw [List.drop_nil] at h; exact hne (List.prefix_nil.mp h)⟩
  | @hit r r' hr ih =>
    refine .inr ⟨?_, 0, List.prefix_append ..⟩
    have := (scan_sub hr).2
    rw [List.length_append, List.length_append, List.length_nil]; omega
  | @miss c r r' hp _ ih =>
    rcases ih with ⟨rfl, h⟩ | ⟨h1, k, h2⟩
    · refine .inl ⟨rfl, fun k hk => ?_⟩
      cases k with
      | zero => exact hp hk
      | succ k => exact h k hk
    · exact .inr ⟨by rw [List.length_cons, List.length_cons]; omega, k + 1, h2⟩
theorem contains_red (l : List Nat) : Txt.contains (strL l) "unknown" = decide (red l ≠ l) := by
  rw [Bool.eq_iff_iff, decide_eq_true_eq]
  unfold Txt.contains
  rw [found_iff]
  have key : (∃ i, i + ("unknown" : Str).length ≤ (strL l).length ∧ subAt (strL l) "unknown" i = true) ↔ ∃ k, unk <+: l.drop k := by
    constructor
    · rintro ⟨i, h⟩
      exact ⟨i, by rw [← unk_list]; exact (at_iff (x := strL l) (y := "unknown") (by decide) i).mp h⟩
    · rintro ⟨i, h⟩
      exact ⟨i, (at_iff (x := strL l) (y := "unknown") (by decide) i).mpr (by rw [unk_list]; exact h)⟩
  rw [key]
  rcases scan_found unk_ne (red_scan l) with ⟨h1, h2⟩ | ⟨h1, h2⟩
  · exact ⟨fun ⟨k, hk⟩ => absurd hk (h2 k), fun h => absurd h1 h⟩
  · exact ⟨fun _ e => by rw [e] at h1; omega, fun _ => h2⟩

/-- doubled dashes made one -/
def sqz : List Nat → List Nat
  | [] => []
  | c :: r => if c = 45 ∧ (sqz r).head? = some 45 then sqz r else c :: sqz r
/-- dashes at the end dropped -/
def rdrop : List Nat → List Nat
  | [] => []
  | c :: r => if c = 45 ∧ rdrop r = [] then [] else c :: rdrop r
def nz : List Nat → List Nat
  | [] => []
  | c :: r => if c = 45 ∧ (nz r = [] ∨ (nz r).head? = some 45) then nz r else c :: nz r
theorem rdrop_head : ∀ l : List Nat, rdrop l = [] ∨ (rdrop l).head? = l.head?
  | [] => .inl rfl
  | c :: r => by
    unfold rdrop
    split
    · exact .inl rfl
    · exact .inr rfl
theorem nz_eq : ∀ l : List Nat, rdrop (sqz l) = nz l
  | [] => rfl
  | c :: r => by
    have ih := nz_eq r
    unfold sqz nz
    by_cases h1 : c = 45 ∧ (sqz r).head? = some 45
    · rw [if_pos h1, ih]
      rcases rdrop_head (sqz r) with h | h
      · rw [if_pos ⟨h1.1, .inl (ih ▸ h)⟩]
      · rw [if_pos ⟨h1.1, .inr (by rw [← ih, h]; exact h1.2)⟩]
    · rw [if_neg h1, rdrop, ih]
      by_cases h2 : c = 45 ∧ nz r = []
      · rw [if_pos h2, if_pos ⟨h2.1, .inl h2.2⟩, h2.2]
      · rw [if_neg h2, if_neg]
        rintro ⟨e, h | h⟩
        · exact h2 ⟨e, h⟩
        · refine h1 ⟨e, ?_⟩
          rw [← ih] at h
          rcases rdrop_head (sqz r) with h3 | h3
          · rw [h3] at h; cases h
          · rw [← h3]; exact h
theorem sqz_congr {c : Nat} {r r' : List Nat} (e : sqz r = sqz r') : sqz (c :: r) = sqz (c :: r') := by unfold sqz; rw [e]
theorem sqz_head (r : List Nat) : (sqz (45 :: r)).head? = some 45 := by
  unfold sqz
  split
  · rename_i h; exact h.2
  · rfl
theorem sqz_two (r : List Nat) : sqz (45 :: 45 :: r) = sqz (45 :: r) := by
  rw [sqz, if_pos ⟨rfl, sqz_head r⟩]
theorem dd_step {l l' : List Nat} (H : Scan [45, 45] [45] l l') : sqz l' = sqz l ∧ ((l' = l ∧ sqz l = l) ∨ l'.length < l.length) := by
  induction H with
  | nil => exact ⟨rfl, .inl ⟨rfl, rfl⟩⟩
  | @hit r r' _ ih =>
    refine ⟨?_, .inr ?_⟩
    · show sqz (45 :: r') = sqz (45 :: 45 :: r)
      rw [sqz_two]; exact sqz_congr ih.1
    · show r'.length + 1 < r.length + 1 + 1
      rcases ih.2 with ⟨e, _⟩ | h
      · rw [e]; omega
      · omega
  | @miss c r r' hp _ ih =>
    refine ⟨sqz_congr ih.1, ?_⟩
    rcases ih.2 with ⟨rfl, h⟩ | h
    · refine .inl ⟨rfl, ?_⟩
      unfold sqz
      rw [h, if_neg]
      rintro ⟨rfl, h2⟩
      cases r' with
      | nil => cases h2
      | cons d q =>
        injection h2 with h2
        subst h2
        exact hp ⟨q, rfl⟩
    · exact .inr (Nat.succ_lt_succ h)
theorem sq_ex : ∀ (n : Nat) (l : List Nat), l.length ≤ n → l.length ≤ 10000 → ∃ m, Sq m (strL l) (strL (sqz l))
  | n, l, hn, hl => by
    obtain ⟨l', h⟩ := scan_ex [45, 45] [45] (by decide) l.length l (Nat.le_refl _)
    have hr : Txt.replace (strL l) "--" "-" = strL l' := replace_scan (x := strL l) (y := "--") (z := "-") (by decide) (by
      rw [show ("--" : Str).cps.toList = [45, 45] from by decide, show ("-" : Str).cps.toList = [45] from by decide]; exact h)
    obtain ⟨h1, ⟨rfl, h3⟩ | h2⟩ := dd_step h
    · rw [h3]
      exact ⟨0, .stop hl hr⟩
    · cases n with
      | zero => omega
      | succ n =>
        obtain ⟨m, hm⟩ := sq_ex n l' (by omega) (by omega)
        refine ⟨m + 1, .go hl ?_ ?_⟩
        · rw [hr]
          intro e
          have := congrArg (fun x : Str => x.cps.toList.length) e
          have : l'.length = l.length := this
          omega
        · rw [hr, ← h1]; exact hm
theorem rdrop_dash : ∀ l : List Nat, rdrop (l ++ [45]) = rdrop l
  | [] => rfl
  | c :: r => by rw [List.cons_append, rdrop, rdrop_dash r, rdrop]
theorem rdrop_other {c : Nat} (h : c ≠ 45) : ∀ l : List Nat, rdrop (l ++ [c]) = l ++ [c]
  | [] => by
    show (if c = 45 ∧ rdrop [] = [] then [] else [c]) = [c]
    rw [if_neg fun e => h e.1]
  | d :: r => by
    rw [List.cons_append, rdrop, rdrop_other h r, if_neg]
    rintro ⟨_, e⟩
    exact List.cons_ne_nil _ _ (List.append_eq_nil_iff.mp e).2
theorem tl_ex : ∀ (n : Nat) (l : List Nat), l.length ≤ n → l.length ≤ 10000 → ∃ m, Tl m (strL l) (strL (rdrop l))
  | n, l, hn, hl => by
    rcases List.eq_nil_or_concat l with rfl | ⟨r, c, e⟩
    · exact ⟨0, .stop hl (.inl rfl)⟩
    · rw [List.concat_eq_append] at e
      subst e
      have it := item_last (x := strL (r ++ [c])) (l := r) (c := c) rfl
      by_cases hc : c = 45
      · subst hc
        cases n with
        | zero => rw [List.length_append] at hn; simp at hn
        | succ n =>
          rw [List.length_append] at hn
          rw [List.length_append] at hl
          obtain ⟨m, hm⟩ := tl_ex n r (by simp at hn; omega) (by omega)
          have h0 : (strL (r ++ [45])).length ≠ 0 := by rw [len_list]; simp
          refine ⟨m + 1, .go (by rw [len_list, List.length_append]; exact hl) h0 (by rw [it]; decide) ?_⟩
          rw [slice_last h0, rdrop_dash]
          show Tl m (strL (r ++ [45]).dropLast) _
          rw [List.dropLast_concat]; exact hm
      · refine ⟨0, ?_⟩
        rw [rdrop_other hc]
        refine .stop (by rw [len_list]; exact hl) (.inr ?_)
        rw [it]
        intro e
        have := congrArg (fun x : Str => x.cps.toList) e
        have : [c] = [45] := this
        injection this with e1
        exact hc e1

def f1 (c d : Nat) (k : Nat) : Nat := if k = c then d else k
def sub1 (k : Nat) : Nat := f1 41 45 (f1 40 45 (f1 34 45 (f1 59 45 (f1 58 45 (f1 92 45 (f1 47 45 (f1 32 95 k)))))))
theorem mid_step {p q : Str} {r : List (Str × Str)} {l : List Nat} {y : Str} {c d : Nat} (hp : p = ⟨#[c]⟩) (hq : q = ⟨#[d]⟩) (hl : l.length ≤ 10000) (h : MidL r (strL (l.map (f1 c d))) y) : MidL ((p, q) :: r) (strL l) y := by
  subst hp hq
  refine ⟨by rw [len_list]; exact hl, ?_⟩
  show MidL r (Txt.replace (strL l) ⟨#[c]⟩ ⟨#[d]⟩) y
  rw [replace_chr]; exact h
theorem mid_ex (l : List Nat) (hl : l.length ≤ 10000) : MidL midPairs (strL l) (strL (red (l.map sub1))) := by
  unfold midPairs
  refine mid_step (c := 32) (d := 95) (by decide) (by decide) hl ?_
  refine mid_step (c := 47) (d := 45) (by decide) (by decide) (by simp only [List.length_map]; exact hl) ?_
  refine mid_step (c := 92) (d := 45) (by decide) (by decide) (by simp only [List.length_map]; exact hl) ?_
  refine mid_step (c := 58) (d := 45) (by decide) (by decide) (by simp only [List.length_map]; exact hl) ?_
  refine mid_step (c := 59) (d := 45) (by decide) (by decide) (by simp only [List.length_map]; exact hl) ?_
  refine mid_step (c := 34) (d := 45) (by decide) (by decide) (by simp only [List.length_map]; exact hl) ?_
  refine mid_step (c := 40) (d := 45) (by decide) (by decide) (by simp only [List.length_map]; exact hl) ?_
  refine mid_step (c := 41) (d := 45) (by decide) (by decide) (by simp only [List.length_map]; exact hl) ?_
  refine ⟨by rw [len_list]; simp only [List.length_map]; exact hl, ?_⟩
  show Txt.replace _ _ _ = _
  rw [red_str]
  simp only [List.map_map]
  rfl

theorem weight_filter : ∀ xs : List Str, (((xs.filter fun x => decide (x.length ≠ 0)).map Txt.strip).map (·.length)).sum + ((xs.filter fun x => decide (x.length ≠ 0)).map Txt.strip).length ≤ (xs.map (·.length)).sum + xs.length
  | [] => Nat.le_refl _
  | x :: r => by
    have ih := weight_filter r
    have h := PyProof.Rows.len_strip x
    rw [List.filter_cons]
    split
    · simp only [List.map_cons, List.sum_cons, List.length_cons] at ih ⊢
      omega
    · simp only [List.map_cons, List.sum_cons, List.length_cons] at ih ⊢
      omega
theorem mem_sum_le {xs : List Str} {x : Str} (h : x ∈ xs) : x.length ≤ (xs.map (·.length)).sum := by
  induction xs with
  | nil => cases h
  | cons a r ih =>
    rw [List.map_cons, List.sum_cons]
    rcases List.mem_cons.mp h with rfl | h
    · omega
    · have := ih h; omega
theorem plat_of {xs : List Str} {b : List Nat} (few : xs.length ≤ 10) (wt : (xs.map (·.length)).sum + xs.length ≤ 10000) (hj : (joinF xs).cps.toList.map sub1 = b) : Plat xs (strL (nz (red b))) := by
  have hw := weight_filter xs
  have hjl : (joinF xs).cps.toList.length ≤ 10000 := by
    rw [← len_list]
    unfold joinF Txt.join
    rw [glued_eq_join]
    have := StrLaws.join_length_le "-" ((xs.filter fun x => decide (x.length ≠ 0)).map Txt.strip)
    rw [show ("-" : Str).length = 1 from by decide, Nat.mul_one] at this
    omega
  subst hj
  have hb : (red ((joinF xs).cps.toList.map sub1)).length ≤ 10000 := Nat.le_trans (red_len _) (by rw [List.length_map]; exact hjl)
  obtain ⟨n, hn⟩ := sq_ex _ (red ((joinF xs).cps.toList.map sub1)) (Nat.le_refl _) hb
  have hs : (sqz (red ((joinF xs).cps.toList.map sub1))).length ≤ 10000 := by
    refine Nat.le_trans ?_ hb
    generalize red ((joinF xs).cps.toList.map sub1) = l
    induction l with
    | nil => exact Nat.le_refl _
    | cons c r ih =>
      unfold sqz
      split
      · rw [List.length_cons]; omega
      · rw [List.length_cons, List.length_cons]; omega
  obtain ⟨m, hm⟩ := tl_ex _ (sqz (red ((joinF xs).cps.toList.map sub1))) (Nat.le_refl _) hs
  rw [nz_eq] at hm
  refine ⟨few, fun x hx => ?_, joinOk_of_weight (by omega) (by decide), _, _, n, m, ?_, hn, hm⟩
  · have := mem_sum_le hx; omega
  · have := mid_ex (joinF xs).cps.toList hjl
    rw [strL_of] at this; exact this
end Mine

end

-- part P3
section
open PySem PySem.W PyProof.Rows
open PySem.Builtin PySem.Builtin.Str PySem.StrLaws
set_option Elab.async false
set_option linter.unusedVariables false
set_option maxRecDepth 100000
set_option pp.deepTerms false
set_option pp.maxSteps 1500
namespace Mine

def jl (s : List Nat) : List (List Nat) → List Nat
  | [] => []
  | [b] => b
  | b :: c :: r => b ++ s ++ jl s (c :: r)
theorem join_jl (sep : Str) : ∀ xs : List Str, (Txt.join sep xs).cps.toList = jl sep.cps.toList (xs.map fun x => x.cps.toList)
  | [] => rfl
  | [x] => rfl
  | x :: y :: r => by
    have ih := join_jl sep (y :: r)
    unfold Txt.join at ih ⊢
    rw [glued_eq_join] at ih ⊢
    show (x ++ sep ++ Str.join sep (y :: r)).cps.toList = x.cps.toList ++ sep.cps.toList ++ _
    rw [append_list, append_list, ih]; rfl
def fl : List (List Nat) → List Nat
  | [] => []
  | b :: r => if b = [] then fl r else 45 :: (b ++ fl r)
def due : List (List Nat) → List Nat
  | [] => []
  | b :: r => b ++ fl r
theorem due_cons (b : List Nat) (r : List (List Nat)) : due (b :: r) = b ++ fl r := rfl
def Free (bs : List (List Nat)) : Prop := ∀ b ∈ bs, 45 ∉ b
theorem Free.tail {b : List Nat} {r : List (List Nat)} (h : Free (b :: r)) : Free r := fun c hc => h c (List.mem_cons_of_mem _ hc)
theorem Free.red {bs : List (List Nat)} (h : Free bs) : Free (bs.map red) := fun c hc => by
  obtain ⟨b, hb, rfl⟩ := List.mem_map.mp hc
  exact fun m => h b hb (red_mem m)
theorem nz_free {y : List Nat} : ∀ {c : List Nat}, 45 ∉ c → nz (c ++ y) = c ++ nz y
  | [], _ => rfl
  | k :: r, h => by
    rw [List.cons_append, nz, if_neg (fun (e : k = 45 ∧ _) => h (e.1 ▸ List.mem_cons_self ..)), nz_free fun m => h (List.mem_cons_of_mem _ m)]; rfl
theorem fl_head : ∀ bs, fl bs = [] ∨ (fl bs).head? = some 45
  | [] => .inl rfl
  | b :: r => by
    unfold fl
    split
    · exact fl_head r
    · exact .inr rfl
theorem nz_head : ∀ y, nz (45 :: y) = [] ∨ (nz (45 :: y)).head? = some 45 := fun y => by
  unfold nz
  split
  · rename_i h; exact h.2
  · exact .inr rfl
theorem nz_two (y : List Nat) : nz (45 :: 45 :: y) = nz (45 :: y) := by
  rw [nz, if_pos ⟨rfl, nz_head y⟩]
theorem nz_dashes (y : List Nat) : ∀ k, nz (List.replicate (k + 1) 45 ++ y) = nz (45 :: y)
  | 0 => rfl
  | k + 1 => by
    show nz (45 :: 45 :: (List.replicate k 45 ++ y)) = _
    rw [nz_two]; exact nz_dashes y k
theorem nz_dash_due {y : List Nat} {bs : List (List Nat)} (hf : Free bs) (h : nz y = due bs) (hne : bs ≠ []) : nz (45 :: y) = fl bs := by
  cases bs with
  | nil => exact absurd rfl hne
  | cons b r =>
    rw [nz, fl, h, due_cons]
    cases b with
    | nil =>
      rw [List.nil_append, if_pos ⟨rfl, fl_head r⟩, if_pos rfl]
    | cons c q =>
      rw [if_neg, if_neg (List.cons_ne_nil c q)]
      rintro ⟨_, h | h⟩
      · cases h
      · injection h with h
        exact hf _ (List.mem_cons_self ..) (h ▸ List.mem_cons_self ..)
theorem nz_nil : nz [] = [] := rfl
theorem nz_jl (k : Nat) : ∀ bs, Free bs → nz (jl (List.replicate (k + 1) 45) bs) = due bs
  | [], _ => rfl
  | [b], h => by
    show nz b = b ++ []
    have := nz_free (y := []) (h b (List.mem_cons_self ..))
    rw [List.append_nil] at this
    rw [this, nz_nil]
  | b :: c :: r, h => by
    have ih := nz_jl k (c :: r) h.tail
    show nz (b ++ List.replicate (k + 1) 45 ++ jl (List.replicate (k + 1) 45) (c :: r)) = b ++ fl (c :: r)
    rw [List.append_assoc, nz_free (h b (List.mem_cons_self ..)), nz_dashes, nz_dash_due h.tail ih (List.cons_ne_nil _ _)]
theorem red_dashes (y : List Nat) : ∀ k, red (List.replicate k 45 ++ y) = List.replicate k 45 ++ red y
  | 0 => rfl
  | k + 1 => by
    show red (45 :: (List.replicate k 45 ++ y)) = 45 :: (List.replicate k 45 ++ red y)
    rw [red_front, red_dashes y k]
theorem jl_cons (s b : List Nat) : ∀ {r : List (List Nat)}, r ≠ [] → jl s (b :: r) = b ++ s ++ jl s r
  | [], h => absurd rfl h
  | _ :: _, _ => rfl
theorem jl_dash (k : Nat) (b : List Nat) {r : List (List Nat)} (h : r ≠ []) : jl (List.replicate (k + 1) 45) (b :: r) = b ++ 45 :: (List.replicate k 45 ++ jl (List.replicate (k + 1) 45) r) := by
  rw [jl_cons _ _ h, List.append_assoc, List.replicate_succ, List.cons_append]
theorem red_jl (k : Nat) : ∀ bs, red (jl (List.replicate (k + 1) 45) bs) = jl (List.replicate (k + 1) 45) (bs.map red)
  | [] => red_nil
  | [b] => rfl
  | b :: c :: r => by
    have ih := red_jl k (c :: r)
    rw [jl_dash k b (List.cons_ne_nil c r), red_sep, red_dashes, ih, List.map_cons (a := b), jl_dash k (red b) (by simp)]
def nes (r : List (List Nat)) : List (List Nat) := r.filter fun b => decide (b ≠ [])
theorem nes_cons (b : List Nat) (r : List (List Nat)) : nes (b :: r) = if b = [] then nes r else b :: nes r := by
  unfold nes
  rw [List.filter_cons]
  by_cases h : b = []
  · rw [if_pos h, if_neg (by simpa using h)]
  · rw [if_neg h, if_pos (by simpa using h)]
theorem fl_jl : ∀ r, fl r = if nes r = [] then [] else 45 :: jl [45] (nes r)
  | [] => rfl
  | b :: r => by
    have ih := fl_jl r
    rw [nes_cons, fl]
    by_cases hb : b = []
    · rw [if_pos hb, if_pos hb, ih]
    · rw [if_neg hb, if_neg hb, if_neg (List.cons_ne_nil _ _), ih]
      by_cases h : nes r = []
      · rw [if_pos h, h, List.append_nil]; rfl
      · rw [if_neg h, jl_cons _ _ h, List.append_assoc]; rfl
theorem due_jl (b : List Nat) (r : List (List Nat)) : due (b :: r) = jl [45] (b :: nes r) := by
  show b ++ fl r = _
  rw [fl_jl]
  by_cases h : nes r = []
  · rw [if_pos h, h, List.append_nil]; rfl
  · rw [if_neg h, jl_cons _ _ h, List.append_assoc]; rfl
theorem fl_nes_red : ∀ r : List (List Nat), fl ((nes r).map red) = fl (r.map red)
  | [] => rfl
  | b :: r => by
    have ih := fl_nes_red r
    rw [nes_cons]
    by_cases hb : b = []
    · rw [if_pos hb, ih, List.map_cons, fl, hb, red_nil, if_pos rfl]
    · rw [if_neg hb, List.map_cons, List.map_cons, fl, fl, ih]
theorem nes_mem {r : List (List Nat)} {b : List Nat} : b ∈ nes r ↔ b ∈ r ∧ b ≠ [] := by
  unfold nes
  rw [List.mem_filter]; simp
theorem free_nes {b : List Nat} {r : List (List Nat)} (h : Free (b :: r)) : Free (b :: nes r) := fun c hc => by
  rcases List.mem_cons.mp hc with rfl | hc
  · exact h _ (List.mem_cons_self ..)
  · exact h _ (List.mem_cons_of_mem _ (nes_mem.mp hc).1)
/-- one call on a name -/
theorem pass_due {cs : List (List Nat)} (h : Free cs) : nz (red (due cs)) = due (cs.map red) := by
  cases cs with
  | nil => show nz (red []) = []; rw [red_nil]; rfl
  | cons b r =>
    rw [due_jl]
    have h1 := red_jl 0 (b :: nes r)
    have h2 := nz_jl 0 _ (free_nes h).red
    have : red (jl [45] (b :: nes r)) = jl [45] ((b :: nes r).map red) := h1
    rw [this]
    refine Eq.trans h2 ?_
    show red b ++ fl ((nes r).map red) = red b ++ fl (r.map red)
    rw [fl_nes_red]
theorem jl_len (s b : List Nat) : ∀ r : List (List Nat), (jl s (b :: r)).length = ((b :: r).map List.length).sum + r.length * s.length
  | [] => by simp [jl]
  | c :: r => by
    have ih := jl_len s c r
    rw [jl_cons _ _ (List.cons_ne_nil _ _), List.length_append, List.length_append, ih, List.map_cons (a := b), List.sum_cons, List.length_cons, Nat.add_mul, Nat.one_mul]
    omega
theorem red_same {l : List Nat} : red l = l ↔ ¬ (red l).length < l.length := by
  rcases scan_found unk_ne (red_scan l) with ⟨h, _⟩ | ⟨h, _⟩
  · exact ⟨fun _ => by rw [h]; omega, fun _ => h⟩
  · exact ⟨fun e => by rw [e] at h; omega, fun h' => absurd h h'⟩
theorem sum_red_le : ∀ r : List (List Nat), ((r.map red).map List.length).sum ≤ (r.map List.length).sum
  | [] => Nat.le_refl _
  | b :: r => by
    have := sum_red_le r
    have := red_len b
    simp only [List.map_cons, List.sum_cons] at *
    omega
theorem sum_red_lt {c : List Nat} (h : red c ≠ c) : ∀ {r : List (List Nat)}, c ∈ r → ((r.map red).map List.length).sum < (r.map List.length).sum
  | b :: r, hc => by
    have h1 := sum_red_le r
    have h2 := red_len b
    have h3 : (red c).length < c.length := Classical.byContradiction fun e => h (red_same.mpr e)
    rcases List.mem_cons.mp hc with rfl | hc
    · simp only [List.map_cons, List.sum_cons] at *
      omega
    · have h4 := sum_red_lt h hc
      simp only [List.map_cons, List.sum_cons] at *
      omega
theorem due_same {cs : List (List Nat)} : red (due cs) = due cs ↔ ∀ c ∈ cs, red c = c := by
  cases cs with
  | nil => exact ⟨fun _ _ h => (nomatch h), fun _ => red_nil⟩
  | cons b r =>
    rw [due_jl]
    have h1 : red (jl [45] (b :: nes r)) = jl [45] ((b :: nes r).map red) := red_jl 0 _
    rw [h1]
    constructor
    · intro e c hc
      refine Classical.byContradiction fun hne => ?_
      have hc' : c ∈ b :: nes r := by
        rcases List.mem_cons.mp hc with rfl | hc
        · exact List.mem_cons_self ..
        · exact List.mem_cons_of_mem _ (nes_mem.mpr ⟨hc, fun e0 => hne (by rw [e0]; exact red_nil)⟩)
      have h2 := sum_red_lt hne hc'
      have h3 := congrArg List.length e
      rw [List.map_cons, jl_len, jl_len, List.length_map] at h3
      rw [List.map_cons] at h2
      omega
    · intro h
      congr 1
      have : (b :: nes r).map red = (b :: nes r).map (fun c => c) := List.map_congr_left fun c hc => by
        rcases List.mem_cons.mp hc with rfl | hc
        · exact h _ (List.mem_cons_self ..)
        · exact h c (List.mem_cons_of_mem _ (nes_mem.mp hc).1)
      rw [this, List.map_id']

/-- the letters of the words -/
def ltrs : List Nat := [107, 110, 111, 117, 119]
def Lt (cs : List (List Nat)) : Prop := ∀ c ∈ cs, ∀ k ∈ c, k ∈ ltrs
def wtL (cs : List (List Nat)) : Nat := (cs.map List.length).sum + cs.length
theorem Lt.free {cs : List (List Nat)} (h : Lt cs) : Free cs := fun c hc m => absurd (h c hc 45 m) (by decide)
theorem Lt.red {cs : List (List Nat)} (h : Lt cs) : Lt (cs.map red) := fun c hc k hk => by
  obtain ⟨b, hb, rfl⟩ := List.mem_map.mp hc
  exact h b hb k (red_mem hk)
theorem wtL_red (cs : List (List Nat)) : wtL (cs.map red) ≤ wtL cs := by
  unfold wtL
  have := sum_red_le cs
  rw [List.length_map]; omega
theorem Lt.tail {b : List Nat} {r : List (List Nat)} (h : Lt (b :: r)) : Lt r := fun c hc => h c (List.mem_cons_of_mem _ hc)
theorem fl_mem : ∀ {r : List (List Nat)}, Lt r → ∀ k ∈ fl r, k ∈ 45 :: ltrs
  | [], _, k, hk => nomatch hk
  | b :: r, h, k, hk => by
    unfold fl at hk
    split at hk
    · exact fl_mem h.tail k hk
    · rcases List.mem_cons.mp hk with rfl | hk
      · exact List.mem_cons_self ..
      · rcases List.mem_append.mp hk with hk | hk
        · exact List.mem_cons_of_mem _ (h b (List.mem_cons_self ..) k hk)
        · exact fl_mem h.tail k hk
theorem due_mem {cs : List (List Nat)} (h : Lt cs) : ∀ k ∈ due cs, k ∈ 45 :: ltrs := by
  cases cs with
  | nil => exact fun k hk => nomatch hk
  | cons b r =>
    intro k hk
    rcases List.mem_append.mp hk with hk | hk
    · exact List.mem_cons_of_mem _ (h b (List.mem_cons_self ..) k hk)
    · exact fl_mem h.tail k hk
theorem fl_len : ∀ r : List (List Nat), (fl r).length ≤ wtL r
  | [] => Nat.le_refl _
  | b :: r => by
    have := fl_len r
    rw [fl]
    unfold wtL at *
    simp only [List.map_cons, List.sum_cons, List.length_cons]
    split
    · omega
    · rw [List.length_cons, List.length_append]; omega
theorem due_len (cs : List (List Nat)) : (due cs).length ≤ wtL cs := by
  cases cs with
  | nil => exact Nat.le_refl _
  | cons b r =>
    have := fl_len r
    show (b ++ fl r).length ≤ _
    unfold wtL at *
    simp only [List.map_cons, List.sum_cons, List.length_cons]
    rw [List.length_append]; omega

theorem take_spaces {p : Nat → Bool} {a m : List Nat} (ha : ∀ k ∈ a, p k = true) (hm : ∀ c, m.head? = some c → p c = false) : (a ++ m).takeWhile p = a := by
  rw [List.takeWhile_append_of_pos ha]
  cases m with
  | nil => simp
  | cons c q => rw [List.takeWhile_cons, hm c rfl]; simp
theorem strip_core {a m b : List Nat} (ha : ∀ k ∈ a, Unicode.isSpace k = true) (hb : ∀ k ∈ b, Unicode.isSpace k = true) (h1 : ∀ c, m.head? = some c → Unicode.isSpace c = false) (h2 : ∀ c, m.getLast? = some c → Unicode.isSpace c = false) (hne : m ≠ []) :
    Txt.strip (strL (a ++ (m ++ b))) = strL m := by
  unfold Txt.strip
  rw [PyProof.Rows.stripBy_eq]
  have e1 : stripLo Unicode.isSpace true (strL (a ++ (m ++ b))) = a.length := by
    unfold stripLo
    rw [if_pos rfl]
    show ((a ++ (m ++ b)).takeWhile Unicode.isSpace).length = _
    rw [take_spaces ha]
    intro c hc
    cases m with
    | nil => exact absurd rfl hne
    | cons d q => exact h1 c hc
  have e2 : stripHi Unicode.isSpace true (strL (a ++ (m ++ b))) a.length = a.length + m.length := by
    unfold stripHi
    rw [if_pos rfl, len_list]
    show (a ++ (m ++ b)).length - (((a ++ (m ++ b)).drop a.length).reverse.takeWhile Unicode.isSpace).length = _
    rw [List.drop_left, List.reverse_append, take_spaces (fun k hk => hb k (List.mem_reverse.mp hk)) (fun c hc => h2 c (by rw [List.head?_reverse] at hc; exact hc))]
    simp only [List.length_append, List.length_reverse]
    omega
  apply Str.ext_list
  rw [e1, e2, strSub_toList]
  show ((a ++ (m ++ b)).drop a.length).take (a.length + m.length - a.length) = m
  rw [List.drop_left, Nat.add_sub_cancel_left, List.take_left]
theorem strip_bare {m : List Nat} (h : ∀ k ∈ m, Unicode.isSpace k = false) (hne : m ≠ []) : Txt.strip (strL m) = strL m := by
  have := strip_core (a := []) (b := []) (m := m) (fun _ h => nomatch h) (fun _ h => nomatch h) (fun c hc => h c (List.mem_of_head? hc)) (fun c hc => h c (List.mem_of_getLast? hc)) hne
  rw [List.append_nil] at this
  exact this
theorem joinF_one {m : List Nat} (h : ∀ k ∈ m, Unicode.isSpace k = false) : joinF [strL m] = strL m := by
  unfold joinF
  by_cases hm : m = []
  · subst hm; rfl
  · have h0 : (strL m).length ≠ 0 := by
      rw [len_list]
      show m.length ≠ 0
      exact fun e => hm (List.length_eq_zero_iff.mp e)
    rw [List.filter_cons, if_pos (by simpa using h0)]
    show Txt.join "-" [Txt.strip (strL m)] = _
    rw [strip_bare h hm]; rfl
theorem ltr_plain : ∀ k ∈ 45 :: ltrs, Unicode.isSpace k = false ∧ sub1 k = k := by decide
theorem map_plain {l : List Nat} (h : ∀ k ∈ l, sub1 k = k) : l.map sub1 = l := by
  conv => rhs; rw [← List.map_id' l]
  exact List.map_congr_left h
theorem plat_name {cs : List (List Nat)} (h : Lt cs) (hw : wtL cs ≤ 1000) : Plat [strL (due cs)] (strL (due (cs.map red))) := by
  have hm := due_mem h
  have hl := due_len cs
  rw [← pass_due h.free]
  refine plat_of (show 1 ≤ 10 by decide) ?_ ?_
  · show ((strL (due cs)).length + 0) + 1 ≤ 10000
    rw [len_list]
    show ((due cs).length + 0) + 1 ≤ 10000
    omega
  · rw [joinF_one fun k hk => (ltr_plain k (hm k hk)).1]
    exact map_plain fun k hk => (ltr_plain k (hm k hk)).2
def rn : Nat → List (List Nat) → List (List Nat)
  | 0, cs => cs
  | n + 1, cs => rn n (cs.map red)
theorem rnd_of : ∀ (n : Nat) (cs : List (List Nat)) (r : Nat), Lt cs → wtL cs ≤ 1000 → (∀ i, i < n → ∃ c ∈ rn i cs, red c ≠ c) → (∀ c ∈ rn n cs, red c = c) → r + n ≤ 9 → Rnd n (strL (due cs)) r (strL (due (rn n cs))) (r + n)
  | 0, cs, r, h, hw, hi, hn, hr => .stop (.inl (by rw [contains_red, show red (due cs) = due cs from due_same.mpr hn]; simp))
  | n + 1, cs, r, h, hw, hi, hn, hr => by
    have := wtL_red cs
    have ih := rnd_of n (cs.map red) (r + 1) h.red (by omega) (fun i hi' => hi (i + 1) (by omega)) hn (by omega)
    rw [show r + 1 + n = r + (n + 1) from by omega] at ih
    refine .go ?_ (by omega) (plat_name h hw) ih
    rw [contains_red, decide_eq_true_eq]
    intro e
    obtain ⟨c, hc, hne⟩ := hi 0 (by omega)
    exact hne (due_same.mp e c hc)
end Mine

end

-- part P4
section
open PySem PySem.W PyProof.Rows
open PySem.Builtin PySem.Builtin.Str PySem.StrLaws
set_option Elab.async false
set_option linter.unusedVariables false
set_option maxRecDepth 100000
set_option pp.deepTerms false
set_option pp.maxSteps 1500
namespace Mine

/-- a word of un (true) and known (false) -/
def enc : List Bool → List Nat
  | [] => []
  | true :: r => 117 :: 110 :: enc r
  | false :: r => 107 :: 110 :: 111 :: 119 :: 110 :: enc r
def redT : List Bool → List Bool
  | [] => []
  | false :: r => false :: redT r
  | [true] => [true]
  | true :: true :: r => true :: redT (true :: r)
  | true :: false :: r => redT r
theorem not_pre {c : Nat} {l : List Nat} (h : c ≠ 117) : ¬ unk <+: c :: l := fun ⟨t, e⟩ => by
  injection e with e1; exact h e1.symm
theorem not_pre3 {c : Nat} {l : List Nat} (h : c ≠ 107) : ¬ unk <+: 117 :: 110 :: c :: l := fun ⟨t, e⟩ => by
  injection e with e1 e2; injection e2 with e3 e4; injection e4 with e5; exact h e5.symm
theorem not_pre2 : ¬ unk <+: [117, 110] := fun ⟨t, e⟩ => by
  injection e with e1 e2; injection e2 with e3 e4; cases e4
theorem scan_enc : ∀ w : List Bool, Scan unk [] (enc w) (enc (redT w))
  | [] => .nil
  | false :: r => .miss (not_pre (by decide)) (.miss (not_pre (by decide)) (.miss (not_pre (by decide)) (.miss (not_pre (by decide)) (.miss (not_pre (by decide)) (scan_enc r)))))
  | [true] => .miss not_pre2 (.miss (not_pre (by decide)) .nil)
  | true :: true :: r => .miss (not_pre3 (by decide)) (.miss (not_pre (by decide)) (scan_enc (true :: r)))
  | true :: false :: r => .hit (pat := unk) (new := []) (scan_enc r)
theorem red_enc (w : List Bool) : red (enc w) = enc (redT w) := red_of (scan_enc w)
theorem enc_inj : ∀ {a b : List Bool}, enc a = enc b → a = b
  | [], [], _ => rfl
  | [], true :: _, h => nomatch h
  | [], false :: _, h => nomatch h
  | true :: _, [], h => nomatch h
  | false :: _, [], h => nomatch h
  | true :: a, true :: b, h => by
    injection h with _ h; injection h with _ h
    rw [enc_inj h]
  | false :: a, false :: b, h => by
    injection h with _ h; injection h with _ h; injection h with _ h; injection h with _ h; injection h with _ h
    rw [enc_inj h]
  | true :: a, false :: b, h => by
    injection h with h; cases h
  | false :: a, true :: b, h => by
    injection h with h; cases h
theorem enc_ltrs : ∀ (w : List Bool), ∀ k ∈ enc w, k ∈ ltrs
  | [], k, h => nomatch h
  | true :: r, k, h => by
    have ih := enc_ltrs r k
    simp only [enc, List.mem_cons] at h
    rcases h with rfl | rfl | h
    · decide
    · decide
    · exact ih h
  | false :: r, k, h => by
    have ih := enc_ltrs r k
    simp only [enc, List.mem_cons] at h
    rcases h with rfl | rfl | rfl | rfl | rfl | h
    · decide
    · decide
    · decide
    · decide
    · decide
    · exact ih h
theorem enc_append : ∀ a b : List Bool, enc (a ++ b) = enc a ++ enc b
  | [], b => rfl
  | true :: a, b => by
    show 117 :: 110 :: enc (a ++ b) = 117 :: 110 :: (enc a ++ enc b)
    rw [enc_append a b]
  | false :: a, b => by
    show 107 :: 110 :: 111 :: 119 :: 110 :: enc (a ++ b) = 107 :: 110 :: 111 :: 119 :: 110 :: (enc a ++ enc b)
    rw [enc_append a b]
def ut (p t : Nat) : List Bool := List.replicate p true ++ List.replicate t false
def pw (p t : Nat) : List Nat := enc (ut p t)
theorem enc_un : ∀ p : Nat, enc (List.replicate p true) = (List.replicate p [117, 110]).flatten
  | 0 => rfl
  | p + 1 => by
    rw [List.replicate_succ, List.replicate_succ, List.flatten_cons, ← enc_un p]; rfl
theorem enc_known : ∀ p : Nat, enc (List.replicate p false) = (List.replicate p [107, 110, 111, 119, 110]).flatten
  | 0 => rfl
  | p + 1 => by
    rw [List.replicate_succ, List.replicate_succ, List.flatten_cons, ← enc_known p]; rfl
theorem mul_un (p : Int) : (Txt.mul "un" p).cps.toList = enc (List.replicate p.toNat true) := by
  rw [mul_list, enc_un, show ("un" : Str).cps.toList = [117, 110] from by decide]
theorem mul_known (p : Int) : (Txt.mul "known" p).cps.toList = enc (List.replicate p.toNat false) := by
  rw [mul_list, enc_known, show ("known" : Str).cps.toList = [107, 110, 111, 119, 110] from by decide]
theorem pw_list (p t : Int) : (Txt.mul "un" p ++ Txt.mul "known" t).cps.toList = pw p.toNat t.toNat := by
  rw [append_list, mul_un, mul_known]
  unfold pw ut
  rw [enc_append]
theorem rep_snoc (p : Nat) : List.replicate (p + 1) true ++ false :: ([] : List Bool) = List.replicate p true ++ [true, false] := by
  rw [List.replicate_succ', List.append_assoc]; rfl
theorem redT_known : ∀ t : Nat, redT (List.replicate t false) = List.replicate t false
  | 0 => rfl
  | t + 1 => by rw [List.replicate_succ, redT, redT_known t]
theorem redT_un : ∀ p : Nat, redT (List.replicate p true) = List.replicate p true
  | 0 => rfl
  | 1 => rfl
  | p + 2 => by
    have ih := redT_un (p + 1)
    rw [List.replicate_succ] at ih
    rw [List.replicate_succ, List.replicate_succ, redT, ih]
theorem redT_both (y : List Bool) : ∀ p : Nat, redT (List.replicate (p + 1) true ++ false :: y) = List.replicate p true ++ redT y
  | 0 => rfl
  | p + 1 => by
    have ih := redT_both y p
    rw [List.replicate_succ, List.cons_append] at ih
    rw [List.replicate_succ, List.replicate_succ, List.cons_append, List.cons_append, redT, ih]; rfl
theorem redT_ut (p t : Nat) : redT (ut p t) = ut (p - min 1 (min p t)) (t - min 1 (min p t)) := by
  unfold ut
  cases p with
  | zero => simp [redT_known]
  | succ p =>
    cases t with
    | zero =>
      have := redT_un (p + 1)
      simpa using this
    | succ t =>
      rw [List.replicate_succ (n := t), redT_both, redT_known]
      have : min 1 (min (p + 1) (t + 1)) = 1 := by omega
      rw [this]; rfl
def pwN (k : Nat) (pt : Int × Int) : List Nat := pw (pt.1.toNat - min k (min pt.1.toNat pt.2.toNat)) (pt.2.toNat - min k (min pt.1.toNat pt.2.toNat))
theorem step_min (k m : Nat) : min k m + min 1 (m - min k m) = min (k + 1) m := by
  rcases Nat.lt_or_ge k m with h | h
  · rw [Nat.min_eq_left (Nat.le_of_lt h), Nat.min_eq_left h, Nat.min_eq_left (Nat.le_sub_of_add_le (by rw [Nat.add_comm]; exact h))]
  · rw [Nat.min_eq_right h, Nat.min_eq_right (Nat.le_succ_of_le h), Nat.sub_self]; rfl
theorem red_pwN (k : Nat) (pt : Int × Int) : red (pwN k pt) = pwN (k + 1) pt := by
  unfold pwN pw
  rw [red_enc, redT_ut, Nat.sub_min_sub_right, Nat.sub_sub, Nat.sub_sub, step_min]
theorem pwN_le {k : Nat} {pt : Int × Int} (h : min pt.1.toNat pt.2.toNat ≤ k) : pwN k pt = pw (pt.1 - pt.2).toNat (pt.2 - pt.1).toNat ∨ ¬ (0 ≤ pt.1 ∧ 0 ≤ pt.2) := by
  by_cases h0 : 0 ≤ pt.1 ∧ 0 ≤ pt.2
  · left
    unfold pwN
    rw [Nat.min_eq_right h]
    obtain ⟨p, hp⟩ := Int.eq_ofNat_of_zero_le h0.1
    obtain ⟨t, ht⟩ := Int.eq_ofNat_of_zero_le h0.2
    rw [hp, ht, Int.toNat_sub, Int.toNat_sub, Int.toNat_natCast, Int.toNat_natCast]
    rcases Nat.le_total p t with h1 | h1
    · rw [Nat.min_eq_left h1, Nat.sub_self, Nat.sub_eq_zero_of_le h1]
    · rw [Nat.min_eq_right h1, Nat.sub_self, Nat.sub_eq_zero_of_le h1]
  · exact .inr h0
theorem enc_len : ∀ w : List Bool, (enc w).length = 2 * (w.filter fun b => b).length + 5 * (w.filter fun b => !b).length
  | [] => rfl
  | true :: r => by
    have := enc_len r
    simp [enc] at *
    omega
  | false :: r => by
    have := enc_len r
    simp [enc] at *
    omega
theorem pw_len (p t : Nat) : (pw p t).length = 2 * p + 5 * t := by
  unfold pw ut
  rw [enc_len]
  simp [List.filter_append]
theorem pwN_fix {k : Nat} {pt : Int × Int} : red (pwN k pt) = pwN k pt ↔ min pt.1.toNat pt.2.toNat ≤ k := by
  rw [red_pwN]
  unfold pwN
  constructor
  · intro e
    rcases Nat.lt_or_ge k (min pt.1.toNat pt.2.toNat) with h | h
    · exfalso
      have := congrArg List.length e
      have h1 := Nat.min_le_left pt.1.toNat pt.2.toNat
      rw [Nat.min_eq_left (Nat.le_of_lt h), Nat.min_eq_left h, pw_len, pw_len] at this
      have h2 : k < pt.1.toNat := Nat.lt_of_lt_of_le h h1
      have h3 : pt.1.toNat - (k + 1) < pt.1.toNat - k := Nat.sub_lt_sub_left h2 (Nat.lt_succ_self k)
      have h4 : pt.2.toNat - (k + 1) ≤ pt.2.toNat - k := Nat.sub_le_sub_left (Nat.le_succ k) _
      clear h h1 h2
      generalize pt.1.toNat - (k + 1) = a at *
      generalize pt.1.toNat - k = b at *
      generalize pt.2.toNat - (k + 1) = c at *
      generalize pt.2.toNat - k = d at *
      omega
    · exact h
  · intro h
    rw [Nat.min_eq_right h, Nat.min_eq_right (Nat.le_succ_of_le h)]
theorem rn_pwN (l : List (Int × Int)) : ∀ n k, rn n (l.map (pwN k)) = l.map (pwN (k + n))
  | 0, k => rfl
  | n + 1, k => by
    rw [rn, List.map_map, show red ∘ pwN k = pwN (k + 1) from funext fun pt => red_pwN k pt, rn_pwN l n (k + 1), show k + 1 + n = k + (n + 1) from by omega]

theorem letter_strip {x : Str} (hl : ∀ k ∈ x.cps.toList, k ∈ ltrs) (h : x.length ≠ 0) : Txt.strip (pad1 x) = x ∧ (pad1 x).length = x.length + 2 := by
  have hm : mn (x.length : Int) 1 = 1 := by unfold mn; split <;> omega
  have hx : x.cps.toList ≠ [] := fun e => h (by rw [len_list, e]; rfl)
  have e1 : (Txt.mul " " 1 : Str) = strL [32] := by decide
  have e2 : (Txt.mul "\n" 1 : Str) = strL [10] := by decide
  have e : pad1 x = strL ([32] ++ (x.cps.toList ++ [10])) := by
    unfold pad1
    rw [hm, e1, e2]
    apply Str.ext_list
    rw [append_list, append_list]; simp
  constructor
  · rw [e, strip_core (by decide) (by decide) (fun c hc => (ltr_plain c (List.mem_cons_of_mem _ (hl c (List.mem_of_head? hc)))).1) (fun c hc => (ltr_plain c (List.mem_cons_of_mem _ (hl c (List.mem_of_getLast? hc)))).1) hx, strL_of]
  · rw [e, len_list, len_list]
    simp
theorem letter_none {x : Str} (h : x.length = 0) : pad1 x = "" := by
  have : x = "" := by
    apply Str.ext_list
    rw [none_list]
    exact List.length_eq_zero_iff.mp (by rw [← len_list]; exact h)
  subst this; decide
theorem pads_strip : ∀ {texts : List Str}, (∀ x ∈ texts, ∀ k ∈ x.cps.toList, k ∈ ltrs) → (((texts.map pad1).filter fun x => decide (x.length ≠ 0)).map Txt.strip) = texts.filter (fun x => decide (x.length ≠ 0)) ∧ ((texts.map pad1).map (·.length)).sum ≤ (texts.map (·.length)).sum + 2 * texts.length
  | [], _ => ⟨rfl, Nat.le_refl _⟩
  | x :: r, h => by
    obtain ⟨i1, i2⟩ := pads_strip fun y hy => h y (List.mem_cons_of_mem _ hy)
    by_cases h0 : x.length = 0
    · rw [List.map_cons, letter_none h0, List.filter_cons, List.filter_cons, if_neg (by decide), if_neg (by rw [h0]; decide), i1]
      refine ⟨rfl, ?_⟩
      simp only [List.map_cons, List.sum_cons, List.length_cons]
      rw [show ("" : Str).length = 0 from by decide]
      omega
    · obtain ⟨s1, s2⟩ := letter_strip (h x (List.mem_cons_self ..)) h0
      rw [List.map_cons, List.filter_cons, List.filter_cons, if_pos (by rw [s2]; simp), if_pos (by simpa using h0), List.map_cons, i1, s1]
      refine ⟨rfl, ?_⟩
      simp only [List.map_cons, List.sum_cons, List.length_cons]
      omega
theorem sum_le_of {texts : List Str} {n m : Nat} (hn : texts.length ≤ n) (h : ∀ x ∈ texts, x.length ≤ m) : (texts.map (·.length)).sum ≤ n * m := by
  refine Nat.le_trans ?_ (Nat.mul_le_mul_right m hn)
  clear hn
  induction texts with
  | nil => exact Nat.zero_le _
  | cons x r ih =>
    have h1 := h x (List.mem_cons_self ..)
    have h2 := ih fun y hy => h y (List.mem_cons_of_mem _ hy)
    simp only [List.map_cons, List.sum_cons, List.length_cons, Nat.add_mul, Nat.one_mul]
    omega
theorem jl_plain : ∀ {bs : List (List Nat)}, Lt bs → ∀ k ∈ jl [45] bs, k ∈ 45 :: ltrs
  | [], _, k, hk => nomatch hk
  | [b], h, k, hk => List.mem_cons_of_mem _ (h b (List.mem_cons_self ..) k hk)
  | b :: c :: r, h, k, hk => by
    rcases List.mem_append.mp hk with hk | hk
    · rcases List.mem_append.mp hk with hk | hk
      · exact List.mem_cons_of_mem _ (h b (List.mem_cons_self ..) k hk)
      · rw [List.mem_singleton.mp hk]; exact List.mem_cons_self ..
    · exact jl_plain (bs := c :: r) h.tail k hk
theorem lt_texts {texts : List Str} (hl : ∀ x ∈ texts, ∀ k ∈ x.cps.toList, k ∈ ltrs) : Lt (texts.map fun x => x.cps.toList) := fun c hc => by
  obtain ⟨x, hx, rfl⟩ := List.mem_map.mp hc
  exact hl x hx
theorem plat_bare {texts : List Str} (hl : ∀ x ∈ texts, ∀ k ∈ x.cps.toList, k ∈ ltrs) (few : texts.length ≤ 4) (short : ∀ x ∈ texts, x.length ≤ 100) :
    Plat (handedF "" texts) (strL (due (((texts.filter fun x => decide (x.length ≠ 0)).map fun x => x.cps.toList).map red))) := by
  have hs := sum_le_of few short
  obtain ⟨i1, i2⟩ := pads_strip hl
  have hlt : Lt ((texts.filter fun x => decide (x.length ≠ 0)).map fun x => x.cps.toList) := lt_texts fun x hx => hl x (List.mem_filter.mp hx).1
  show Plat (texts.map pad1) _
  rw [← nz_jl 0 _ hlt.red.free, ← red_jl]
  refine plat_of (by rw [List.length_map]; omega) (by rw [List.length_map]; omega) ?_
  unfold joinF
  rw [i1, join_jl]
  exact map_plain fun k hk => (ltr_plain k (jl_plain hlt k hk)).2
theorem jl_sub (m : Nat) (hm : sub1 m = 45) : ∀ {bs : List (List Nat)}, Lt bs → (jl (List.replicate 3 m) bs).map sub1 = jl (List.replicate 3 45) bs
  | [], _ => rfl
  | [b], h => map_plain fun k hk => (ltr_plain k (List.mem_cons_of_mem _ (h b (List.mem_cons_self ..) k hk))).2
  | b :: c :: r, h => by
    have ih := jl_sub m hm (bs := c :: r) h.tail
    rw [jl_cons _ _ (List.cons_ne_nil c r), jl_cons _ _ (List.cons_ne_nil c r), List.map_append, List.map_append, ih, map_plain (l := b) fun k hk => (ltr_plain k (List.mem_cons_of_mem _ (h b (List.mem_cons_self ..) k hk))).2,
      List.map_replicate, hm]
theorem jl_mem3 {m : Nat} : ∀ {bs : List (List Nat)}, Lt bs → ∀ k ∈ jl (List.replicate 3 m) bs, k ∈ m :: ltrs
  | [], _, k, hk => nomatch hk
  | [b], h, k, hk => List.mem_cons_of_mem _ (h b (List.mem_cons_self ..) k hk)
  | b :: c :: r, h, k, hk => by
    rcases List.mem_append.mp hk with hk | hk
    · rcases List.mem_append.mp hk with hk | hk
      · exact List.mem_cons_of_mem _ (h b (List.mem_cons_self ..) k hk)
      · rw [List.eq_of_mem_replicate hk]; exact List.mem_cons_self ..
    · exact jl_mem3 (bs := c :: r) h.tail k hk
theorem plat_mark {m : Nat} (hm : sub1 m = 45) (hsp : Unicode.isSpace m = false) {texts : List Str} (hl : ∀ x ∈ texts, ∀ k ∈ x.cps.toList, k ∈ ltrs) (few : texts.length ≤ 4) (short : ∀ x ∈ texts, x.length ≤ 100) :
    Plat (handedF ⟨#[m]⟩ texts) (strL (due ((texts.map fun x => x.cps.toList).map red))) := by
  have hs := sum_le_of few short
  have hlt := lt_texts hl
  have hh : handedF ⟨#[m]⟩ texts = [Txt.join (Txt.mul ⟨#[m]⟩ 3) texts] := by
    unfold handedF
    rw [if_neg]
    intro e
    have := congrArg (fun x : Str => x.cps.toList) e
    cases this
  have h3 : (Txt.mul ⟨#[m]⟩ 3).cps.toList = List.replicate 3 m := by
    rw [mul_list]; rfl
  have hj : Txt.join (Txt.mul ⟨#[m]⟩ 3) texts = strL (jl (List.replicate 3 m) (texts.map fun x => x.cps.toList)) := by
    apply Str.ext_list
    rw [join_jl, h3]
  have hlen : (jl (List.replicate 3 m) (texts.map fun x => x.cps.toList)).length ≤ 1000 := by
    have h1 := StrLaws.join_length_le (Txt.mul ⟨#[m]⟩ 3) texts
    have h2 : (Str.join (Txt.mul ⟨#[m]⟩ 3) texts) = Txt.join (Txt.mul ⟨#[m]⟩ 3) texts := by unfold Txt.join; rw [glued_eq_join]
    rw [h2, hj, len_list (Txt.mul ⟨#[m]⟩ 3), h3, len_list (strL _), List.length_replicate] at h1
    show (strL (jl (List.replicate 3 m) (texts.map fun x => x.cps.toList))).cps.toList.length ≤ 1000
    omega
  have hpl : ∀ k ∈ jl (List.replicate 3 m) (texts.map fun x => x.cps.toList), Unicode.isSpace k = false := fun k hk => by
    rcases List.mem_cons.mp (jl_mem3 hlt k hk) with rfl | h
    · exact hsp
    · exact (ltr_plain k (List.mem_cons_of_mem _ h)).1
  rw [hh, hj, ← nz_jl 2 _ hlt.red.free, ← red_jl]
  refine plat_of (show 1 ≤ 10 by decide) ?_ ?_
  · show ((strL _).length + 0) + 1 ≤ 10000
    rw [len_list]
    show ((jl (List.replicate 3 m) (texts.map fun x => x.cps.toList)).length + 0) + 1 ≤ 10000
    omega
  · rw [joinF_one hpl]
    exact jl_sub m hm hlt
end Mine

end

-- part P5
section
open PySem PySem.W PyProof.Rows
open PySem.Builtin PySem.Builtin.Str PySem.StrLaws
set_option Elab.async false
set_option linter.unusedVariables false
set_option maxRecDepth 100000
set_option pp.deepTerms false
set_option pp.maxSteps 1500
namespace Mine

theorem str_nil {x : Str} : x.cps.toList = [] ↔ x = "" := by
  constructor
  · intro h
    apply Str.ext_list
    rw [none_list]; exact h
  · rintro rfl; exact none_list
theorem nes_strs : ∀ r : List Str, (r.filter fun (e : Str) => decide (e ≠ "")).map (fun x => x.cps.toList) = nes (r.map fun x => x.cps.toList)
  | [] => rfl
  | x :: r => by
    have ih := nes_strs r
    rw [List.map_cons, nes_cons, List.filter_cons]
    by_cases h : x = ""
    · rw [if_neg (by simpa using h), if_pos (str_nil.mpr h), ih]
    · rw [if_pos (by simpa using h), if_neg (fun e => h (str_nil.mp e)), List.map_cons, ih]
theorem jl_nil_iff {s : List Nat} {r : List (List Nat)} (h : ∀ b ∈ r, b ≠ []) : jl s r = [] ↔ r = [] := by
  cases r with
  | nil => exact ⟨fun _ => rfl, fun _ => rfl⟩
  | cons b q =>
    have hb := h b (List.mem_cons_self ..)
    cases q with
    | nil => exact ⟨fun e => absurd e hb, fun e => nomatch e⟩
    | cons c q => exact ⟨fun e => absurd (List.append_eq_nil_iff.mp (List.append_eq_nil_iff.mp e).1).1 hb, fun e => nomatch e⟩
theorem due_name (ends : List Str) : (dueName ends).cps.toList = due (ends.map fun x => x.cps.toList) := by
  have hj : (Txt.join "-" (ends.filter fun e => decide (e ≠ ""))).cps.toList = jl [45] (nes (ends.map fun x => x.cps.toList)) := by
    rw [join_jl, nes_strs]
    rfl
  have h0 : Txt.join "-" (ends.filter fun e => decide (e ≠ "")) = "" ↔ nes (ends.map fun x => x.cps.toList) = [] := by
    rw [← str_nil, hj]
    exact jl_nil_iff fun b hb => (nes_mem.mp hb).2
  unfold dueName
  cases ends with
  | nil => rfl
  | cons e r =>
    rw [List.map_cons, due_cons, fl_jl]
    rw [List.map_cons] at hj h0
    rw [nes_cons] at hj h0
    by_cases he : e = ""
    · have hn : e.cps.toList = [] := str_nil.mpr he
      rw [if_pos hn] at hj h0
      by_cases hr : nes (r.map fun x => x.cps.toList) = []
      · rw [if_pos hr, hn]
        have := h0.mpr hr
        rw [this]
        exact none_list
      · rw [if_neg hr, hn]
        have hne : Txt.join "-" ((e :: r).filter fun e => decide (e ≠ "")) ≠ "" := fun e => hr (h0.mp e)
        rw [if_pos (by rw [decide_eq_true hne, List.headD_cons, decide_eq_true he]; rfl), append_list, hj]
        rfl
    · have hn : ¬ e.cps.toList = [] := fun h => he (str_nil.mp h)
      rw [if_neg hn] at hj h0
      rw [if_neg (by rw [List.headD_cons, decide_eq_false he]; simp), hj]
      by_cases hr : nes (r.map fun x => x.cps.toList) = []
      · rw [if_pos hr, hr, List.append_nil]; rfl
      · rw [if_neg hr, jl_cons _ _ hr, List.append_assoc]; rfl

theorem blank_red (x : Str) : red (blankF x).cps.toList = red x.cps.toList := by
  unfold blankF
  split
  · rename_i h
    rw [h, unk_list, none_list, red_nil]
    exact (red_of (.hit (pat := unk) (new := []) .nil)).symm
  · rfl
theorem blank_sub (x : Str) : (∀ k ∈ (blankF x).cps.toList, k ∈ x.cps.toList) ∧ (blankF x).length ≤ x.length := by
  unfold blankF
  split
  · exact ⟨fun k h => by (rw [none_list] at h; cases h), Nat.zero_le _⟩
  · exact ⟨fun _ h => h, Nat.le_refl _⟩
theorem text_red (pt : Int × Int) : red (textOf pt).cps.toList = pwN 1 pt := by
  unfold textOf
  rw [blank_red, pw_list, ← red_pwN 0 pt]
  unfold pwN
  congr 2 <;> omega
theorem text_ltrs (pt : Int × Int) : ∀ k ∈ (textOf pt).cps.toList, k ∈ ltrs := fun k hk => by
  unfold textOf at hk
  have := (blank_sub _).1 k hk
  rw [pw_list] at this
  exact enc_ltrs _ k this
theorem text_len (pt : Int × Int) (h : pt.1 + pt.2 ≤ 12) (h0 : 0 ≤ pt.1 ∧ 0 ≤ pt.2) : (textOf pt).length ≤ 100 := by
  unfold textOf
  refine Nat.le_trans (blank_sub _).2 ?_
  rw [len_list, pw_list, pw_len]; omega
theorem unk_pw : pw 1 1 = unk := rfl
theorem text_keep (pt : Int × Int) (h0 : 0 ≤ pt.1 ∧ 0 ≤ pt.2) (h1 : 1 ≤ pt.1 + pt.2) : decide ((textOf pt).length ≠ 0) = keepsEnd "" pt := by
  rw [Bool.eq_iff_iff, decide_eq_true_eq]
  unfold keepsEnd
  simp only [Bool.or_eq_true, decide_eq_true_eq, ne_eq, not_true, false_or, Bool.false_eq_true, or_false]
  have hl : (Txt.mul "un" pt.1 ++ Txt.mul "known" pt.2).length = 2 * pt.1.toNat + 5 * pt.2.toNat := by rw [len_list, pw_list, pw_len]
  have hu : (Txt.mul "un" pt.1 ++ Txt.mul "known" pt.2) = "unknown" ↔ pt.1 = 1 ∧ pt.2 = 1 := by
    constructor
    · intro e
      rw [e, show ("unknown" : Str).length = 7 from by decide] at hl
      omega
    · rintro ⟨e1, e2⟩
      apply Str.ext_list
      rw [pw_list, e1, e2, unk_list]; exact unk_pw
  unfold textOf blankF
  split
  · rename_i h
    have := hu.mp h
    rw [show ("" : Str).length = 0 from by decide]
    omega
  · rename_i h
    have h2 : ¬ (pt.1 = 1 ∧ pt.2 = 1) := fun e => h (hu.mpr e)
    rw [hl]
    clear hl hu h
    refine ⟨fun _ => Decidable.not_and_iff_not_or_not.mp h2, fun _ => ?_⟩
    clear h2
    omega
theorem rounds_facts : ∀ (l : List (Int × Int)) (a : Int), a ≤ l.foldl (fun r pt => mx r (mn pt.1 pt.2)) a ∧ (∀ pt ∈ l, mn pt.1 pt.2 ≤ l.foldl (fun r pt => mx r (mn pt.1 pt.2)) a) ∧
    (l.foldl (fun r pt => mx r (mn pt.1 pt.2)) a = a ∨ ∃ pt ∈ l, l.foldl (fun r pt => mx r (mn pt.1 pt.2)) a = mn pt.1 pt.2)
  | [], a => ⟨Int.le_refl _, fun _ h => (nomatch h), .inl rfl⟩
  | q :: l, a => by
    obtain ⟨h1, h2, h3⟩ := rounds_facts l (mx a (mn q.1 q.2))
    rw [List.foldl_cons]
    have hm : a ≤ mx a (mn q.1 q.2) ∧ mn q.1 q.2 ≤ mx a (mn q.1 q.2) ∧ (mx a (mn q.1 q.2) = a ∨ mx a (mn q.1 q.2) = mn q.1 q.2) := by
      unfold mx
      split <;> omega
    refine ⟨Int.le_trans hm.1 h1, fun pt h => ?_, ?_⟩
    · rcases List.mem_cons.mp h with rfl | h
      · exact Int.le_trans hm.2.1 h1
      · exact h2 pt h
    · rcases h3 with h3 | ⟨pt, hpt, h3⟩
      · rw [h3]
        rcases hm.2.2 with h | h
        · exact .inl h
        · exact .inr ⟨q, List.mem_cons_self .., h⟩
      · exact .inr ⟨pt, List.mem_cons_of_mem _ hpt, h3⟩

theorem first_call {mark : Str} (hm : mark = "" ∨ ∃ m, mark = ⟨#[m]⟩ ∧ sub1 m = 45 ∧ Unicode.isSpace m = false) {sums : List (Int × Int)} (few : sums.length ≤ 4) (hb : ∀ pt ∈ sums, (0 ≤ pt.1 ∧ 0 ≤ pt.2) ∧ 1 ≤ pt.1 + pt.2 ∧ pt.1 + pt.2 ≤ 12) :
    Plat (handedF mark (textsF sums)) (strL (due ((sums.filter (keepsEnd mark)).map (pwN 1)))) := by
  have hl : ∀ x ∈ textsF sums, ∀ k ∈ x.cps.toList, k ∈ ltrs := fun x hx => by
    obtain ⟨pt, _, rfl⟩ := List.mem_map.mp hx
    exact text_ltrs pt
  have hs : ∀ x ∈ textsF sums, x.length ≤ 100 := fun x hx => by
    obtain ⟨pt, hpt, rfl⟩ := List.mem_map.mp hx
    exact text_len pt (hb pt hpt).2.2 (hb pt hpt).1
  have hf : (textsF sums).length ≤ 4 := by unfold textsF; rw [List.length_map]; exact few
  rcases hm with rfl | ⟨m, rfl, h1, h2⟩
  · have := plat_bare hl hf hs
    rw [show (((textsF sums).filter fun x => decide (x.length ≠ 0)).map fun x => x.cps.toList).map red = (sums.filter (keepsEnd "")).map (pwN 1) from ?_] at this
    · exact this
    · unfold textsF
      rw [List.filter_map, List.map_map, List.map_map, List.filter_congr (p := (fun x : Str => decide (x.length ≠ 0)) ∘ textOf) (q := keepsEnd "") (fun pt hpt => text_keep pt (hb pt hpt).1 (hb pt hpt).2.1)]
      exact List.map_congr_left fun pt _ => text_red pt
  · have := plat_mark h1 h2 hl hf hs
    rw [show ((textsF sums).map fun x => x.cps.toList).map red = (sums.filter (keepsEnd ⟨#[m]⟩)).map (pwN 1) from ?_] at this
    · exact this
    · unfold textsF
      rw [List.map_map, List.map_map, List.filter_eq_self.mpr fun pt _ => ?_]
      · exact List.map_congr_left fun pt _ => text_red pt
      · unfold keepsEnd
        rw [decide_eq_true (show (⟨#[m]⟩ : Str) ≠ "" from fun e => by have := congrArg (fun x : Str => x.cps.toList) e; rw [show (("" : Str)).cps.toList = [] from none_list] at this; cases this)]
        rfl

theorem wt_pw {l : List (Int × Int)} (few : l.length ≤ 4) (hb : ∀ pt ∈ l, (0 ≤ pt.1 ∧ 0 ≤ pt.2) ∧ 1 ≤ pt.1 + pt.2 ∧ pt.1 + pt.2 ≤ 12) (k : Nat) : wtL (l.map (pwN k)) ≤ 1000 := by
  have : ((l.map (pwN k)).map List.length).sum ≤ l.length * 60 := by
    clear few
    induction l with
    | nil => exact Nat.zero_le _
    | cons a r ih =>
      have h1 := ih fun pt h => hb pt (List.mem_cons_of_mem _ h)
      have h2 := hb a (List.mem_cons_self ..)
      have h3 : (pwN k a).length ≤ 60 := by
        unfold pwN
        rw [pw_len]
        have q1 := Nat.sub_le a.1.toNat (min k (min a.1.toNat a.2.toNat))
        have q2 := Nat.sub_le a.2.toNat (min k (min a.1.toNat a.2.toNat))
        have q3 : a.1.toNat + a.2.toNat ≤ 12 := by clear q1 q2; omega
        generalize a.1.toNat - min k (min a.1.toNat a.2.toNat) = u at *
        generalize a.2.toNat - min k (min a.1.toNat a.2.toNat) = v at *
        omega
      simp only [List.map_cons, List.sum_cons, List.length_cons, Nat.add_mul, Nat.one_mul]
      omega
  unfold wtL
  rw [List.length_map]; omega
theorem lt_pw (l : List (Int × Int)) (k : Nat) : Lt (l.map (pwN k)) := fun c hc => by
  obtain ⟨pt, _, rfl⟩ := List.mem_map.mp hc
  exact enc_ltrs _

theorem tidy_heaps {mark : Str} (hm : mark = "" ∨ ∃ m, mark = ⟨#[m]⟩ ∧ sub1 m = 45 ∧ Unicode.isSpace m = false) {sums : List (Int × Int)} (few : sums.length ≤ 4) (hb : ∀ pt ∈ sums, (0 ≤ pt.1 ∧ 0 ≤ pt.2) ∧ 1 ≤ pt.1 + pt.2 ∧ pt.1 + pt.2 ≤ 12) :
    ∃ r : Nat, Tidy mark (textsF sums) (dueName (endsF mark sums)) r ∧ (r : Int) = roundsF sums := by
  obtain ⟨r1, r2, r3⟩ := rounds_facts sums 1
  have hr : roundsF sums = sums.foldl (fun r pt => mx r (mn pt.1 pt.2)) 1 := rfl
  rw [← hr] at r1 r2 r3
  have hmn : ∀ pt ∈ sums, mn pt.1 pt.2 = ((min pt.1.toNat pt.2.toNat : Nat) : Int) := fun pt hpt => by
    have := (hb pt hpt).1
    unfold mn
    split <;> omega
  obtain ⟨n, hn⟩ : ∃ n : Nat, roundsF sums = ((1 + n : Nat) : Int) := ⟨(roundsF sums - 1).toNat, by omega⟩
  have h9 : 1 + n ≤ 9 := by
    rcases r3 with h | ⟨pt, hpt, h⟩
    · omega
    · have := hb pt hpt
      rw [hmn pt hpt] at h
      omega
  have hbk : ∀ pt ∈ sums.filter (keepsEnd mark), (0 ≤ pt.1 ∧ 0 ≤ pt.2) ∧ 1 ≤ pt.1 + pt.2 ∧ pt.1 + pt.2 ≤ 12 := fun pt h => hb pt (List.mem_filter.mp h).1
  have hlk : (sums.filter (keepsEnd mark)).length ≤ 4 := Nat.le_trans (List.length_filter_le _ _) few
  have key := rnd_of n ((sums.filter (keepsEnd mark)).map (pwN 1)) 1 (lt_pw _ _) (wt_pw hlk hbk 1) (fun i hi => ?_) (fun c hc => ?_) h9
  · refine ⟨1 + n, ⟨by unfold textsF; rw [List.length_map]; exact few, fun x hx => ?_, ?_, _, n, first_call hm few hb, ?_⟩, hn.symm⟩
    · obtain ⟨pt, hpt, rfl⟩ := List.mem_map.mp hx
      exact text_len pt (hb pt hpt).2.2 (hb pt hpt).1
    · rcases hm with rfl | ⟨m, rfl, _⟩
      · decide
      · exact Nat.le_refl 1
    · have e : strL (due (rn n ((sums.filter (keepsEnd mark)).map (pwN 1)))) = dueName (endsF mark sums) := by
        apply Str.ext_list
        rw [due_name, rn_pwN]
        show due _ = due _
        congr 1
        unfold endsF
        rw [List.map_map]
        refine List.map_congr_left fun pt hpt => ?_
        have h1 := r2 pt (List.mem_filter.mp hpt).1
        rw [hmn pt (List.mem_filter.mp hpt).1] at h1
        rcases pwN_le (k := 1 + n) (pt := pt) (by omega) with h | h
        · rw [h]
          show _ = (endOf pt).cps.toList
          unfold endOf
          rw [pw_list]
        · exact absurd (hbk pt hpt).1 h
      rw [e] at key
      exact key
  · rcases r3 with h | ⟨pt, hpt, h⟩
    · omega
    · rw [hmn pt hpt] at h
      refine ⟨pwN (1 + i) pt, ?_, fun e => ?_⟩
      · rw [rn_pwN]
        refine List.mem_map.mpr ⟨pt, List.mem_filter.mpr ⟨hpt, ?_⟩, rfl⟩
        unfold keepsEnd
        by_cases h1 : pt.1 = 1
        · omega
        · rw [decide_eq_true h1]; simp
      · have := pwN_fix.mp e
        omega
  · rw [rn_pwN] at hc
    obtain ⟨pt, hpt, rfl⟩ := List.mem_map.mp hc
    have h1 := r2 pt (List.mem_filter.mp hpt).1
    rw [hmn pt (List.mem_filter.mp hpt).1] at h1
    exact pwN_fix.mpr (by omega)

theorem mark_ok (t : Int) : markOf t = "" ∨ ∃ m, markOf t = ⟨#[m]⟩ ∧ sub1 m = 45 ∧ Unicode.isSpace m = false := by
  unfold markOf
  split
  · right
    have h : 0 ≤ (t.fdiv 2).fmod 8 ∧ (t.fdiv 2).fmod 8 < 8 := by
      rw [Int.fmod_eq_emod_of_nonneg _ (by decide)]; omega
    generalize (t.fdiv 2).fmod 8 = j at h
    obtain ⟨n, rfl⟩ := Int.eq_ofNat_of_zero_le h.1
    have h8 : n < 8 := Int.ofNat_lt.mp h.2
    clear h
    match n, h8 with
    | 0, _ => exact ⟨47, by decide, by decide, by decide⟩
    | 1, _ => exact ⟨92, by decide, by decide, by decide⟩
    | 2, _ => exact ⟨58, by decide, by decide, by decide⟩
    | 3, _ => exact ⟨59, by decide, by decide, by decide⟩
    | 4, _ => exact ⟨34, by decide, by decide, by decide⟩
    | 5, _ => exact ⟨40, by decide, by decide, by decide⟩
    | 6, _ => exact ⟨41, by decide, by decide, by decide⟩
    | 7, _ => exact ⟨45, by decide, by decide, by decide⟩
  · exact .inl rfl

structure SOK (st : List Int) : Prop where
  len : st.length = 4
  rng : ∀ x ∈ st, x ≠ 0 ∧ -3 ≤ x ∧ x ≤ 3
theorem SOK.at {st : List Int} (S : SOK st) {k : Nat} (hk : k < 4) : st.getD k 0 ≠ 0 ∧ -3 ≤ st.getD k 0 ∧ st.getD k 0 ≤ 3 := by
  have h : k < st.length := by rw [S.len]; exact hk
  have : st.getD k 0 = st[k] := by rw [List.getD_eq_getElem?_getD, List.getElem?_eq_getElem h]; rfl
  rw [this]
  exact S.rng _ (List.getElem_mem h)
theorem heap_bounds {st : List Int} (S : SOK st) : ∀ h : List Nat, (∀ k ∈ h, k < 4) → (0 ≤ (heapSum st h).1 ∧ 0 ≤ (heapSum st h).2) ∧ (h.length : Int) ≤ (heapSum st h).1 + (heapSum st h).2 ∧ (heapSum st h).1 + (heapSum st h).2 ≤ 3 * (h.length : Int)
  | [], _ => ⟨⟨Int.le_refl _, Int.le_refl _⟩, Int.le_refl _, Int.le_refl _⟩
  | k :: r, h => by
    obtain ⟨⟨h1, h2⟩, h3, h4⟩ := heap_bounds S r fun j hj => h j (List.mem_cons_of_mem _ hj)
    have hk := S.at (h k (List.mem_cons_self ..))
    unfold heapSum at *
    simp only [List.map_cons, List.sum_cons, List.length_cons] at *
    have hm : 0 ≤ mx (0 - st.getD k 0) 0 ∧ 0 ≤ mx (st.getD k 0) 0 ∧ 1 ≤ mx (0 - st.getD k 0) 0 + mx (st.getD k 0) 0 ∧ mx (0 - st.getD k 0) 0 + mx (st.getD k 0) 0 ≤ 3 := by
      unfold mx
      split <;> split <;> omega
    omega
theorem ways_len (w : List (List Nat)) (h : w ∈ waysAt 4) : w.length ≤ 4 := (waysAt_len 4 w h).1
theorem sums_ok {st : List Int} (S : SOK st) {w : List (List Nat)} (h : w ∈ waysAt 4) : ∀ pt ∈ sumsF st w, (0 ≤ pt.1 ∧ 0 ≤ pt.2) ∧ 1 ≤ pt.1 + pt.2 ∧ pt.1 + pt.2 ≤ 12 := fun pt hpt => by
  obtain ⟨o, ho, rfl⟩ := List.mem_map.mp hpt
  obtain ⟨⟨l1, l2⟩, l3⟩ := ways_lt w h o ho
  obtain ⟨h1, h2, h3⟩ := heap_bounds S o l3
  omega
theorem tidy_fact {st : List Int} (S : SOK st) (turn : Int) (i : Nat) (w : List (List Nat)) (h : (waysAt 4)[i]? = some w) :
    ∃ r : Nat, Tidy (markOf (turn + i)) (textsF (sumsF st w)) (dueName (endsF (markOf (turn + i)) (sumsF st w))) r ∧ (r : Int) = roundsF (sumsF st w) := by
  have hw := List.mem_of_getElem? h
  refine tidy_heaps (mark_ok _) ?_ (sums_ok S hw)
  unfold sumsF
  rw [List.length_map]; exact ways_len w hw
end Mine

end

-- part P6
section
open PySem PySem.W PyProof.Rows
open PySem.Builtin PySem.Builtin.Str PySem.StrLaws
set_option Elab.async false
set_option linter.unusedVariables false
set_option maxRecDepth 100000
set_option pp.deepTerms false
set_option pp.maxSteps 1500
namespace Mine

def ex (na pa nb pb nc pc nd pd P N : Nat) : Nat := Nat.pow 32 (Nat.sub (Nat.add (Nat.sub (Nat.add (Nat.sub (Nat.add (Nat.sub (Nat.add (Nat.sub na pa) nb) pb) nc) pc) nd) pd) P) N)
def spA (n0 p0 n1 p1 n2 p2 n3 p3 P N : Nat) : Nat :=
  (Nat.add (ex n3 p3 n2 p2 n1 p1 n0 p0 P N) (Nat.add (ex n2 p2 n3 p3 n1 p1 n0 p0 P N) (Nat.add (ex n2 p2 n1 p1 n3 p3 n0 p0 P N) (Nat.add (ex n2 p2 n1 p1 n0 p0 n3 p3 P N) (Nat.add (ex n3 p3 n1 p1 n2 p2 n0 p0 P N) (Nat.add (ex n1 p1 n3 p3 n2 p2 n0 p0 P N) (Nat.add (ex n1 p1 n2 p2 n3 p3 n0 p0 P N) (Nat.add (ex n1 p1 n2 p2 n0 p0 n3 p3 P N) (Nat.add (ex n3 p3 n1 p1 n0 p0 n2 p2 P N) (Nat.add (ex n1 p1 n3 p3 n0 p0 n2 p2 P N) (Nat.add (ex n1 p1 n0 p0 n3 p3 n2 p2 P N) (Nat.add (ex n1 p1 n0 p0 n2 p2 n3 p3 P N) (Nat.add (ex n3 p3 n2 p2 n0 p0 n1 p1 P N) (Nat.add (ex n2 p2 n3 p3 n0 p0 n1 p1 P N) (Nat.add (ex n2 p2 n0 p0 n3 p3 n1 p1 P N) (Nat.add (ex n2 p2 n0 p0 n1 p1 n3 p3 P N) (Nat.add (ex n3 p3 n0 p0 n2 p2 n1 p1 P N) (Nat.add (ex n0 p0 n3 p3 n2 p2 n1 p1 P N) (Nat.add (ex n0 p0 n2 p2 n3 p3 n1 p1 P N) (Nat.add (ex n0 p0 n2 p2 n1 p1 n3 p3 P N) (Nat.add (ex n3 p3 n0 p0 n1 p1 n2 p2 P N) (Nat.add (ex n0 p0 n3 p3 n1 p1 n2 p2 P N) (Nat.add (ex n0 p0 n1 p1 n3 p3 n2 p2 P N) (Nat.add (ex n0 p0 n1 p1 n2 p2 n3 p3 P N) 0))))))))))))))))))))))))
def spB (n0 p0 n1 p1 n2 p2 n3 p3 : Nat) : Nat :=
  (Nat.add (Nat.mul 1 (Nat.pow 32 (Nat.add (Nat.sub (Nat.add p0 0) (Nat.add n0 0)) (Nat.add (Nat.sub (Nat.add p1 0) (Nat.add n1 0)) (Nat.add (Nat.sub (Nat.add p2 0) (Nat.add n2 0)) (Nat.add (Nat.sub (Nat.add p3 0) (Nat.add n3 0)) 0)))))) (Nat.add (Nat.mul 1 (Nat.pow 32 (Nat.add (Nat.sub (Nat.add p0 (Nat.add p3 0)) (Nat.add n0 (Nat.add n3 0))) (Nat.add (Nat.sub (Nat.add p1 0) (Nat.add n1 0)) (Nat.add (Nat.sub (Nat.add p2 0) (Nat.add n2 0)) 0))))) (Nat.add (Nat.mul 1 (Nat.pow 32 (Nat.add (Nat.sub (Nat.add p0 0) (Nat.add n0 0)) (Nat.add (Nat.sub (Nat.add p1 (Nat.add p3 0)) (Nat.add n1 (Nat.add n3 0))) (Nat.add (Nat.sub (Nat.add p2 0) (Nat.add n2 0)) 0))))) (Nat.add (Nat.mul 1 (Nat.pow 32 (Nat.add (Nat.sub (Nat.add p0 0) (Nat.add n0 0)) (Nat.add (Nat.sub (Nat.add p1 0) (Nat.add n1 0)) (Nat.add (Nat.sub (Nat.add p2 (Nat.add p3 0)) (Nat.add n2 (Nat.add n3 0))) 0))))) (Nat.add (Nat.mul 1 (Nat.pow 32 (Nat.add (Nat.sub (Nat.add p0 (Nat.add p2 0)) (Nat.add n0 (Nat.add n2 0))) (Nat.add (Nat.sub (Nat.add p1 0) (Nat.add n1 0)) (Nat.add (Nat.sub (Nat.add p3 0) (Nat.add n3 0)) 0))))) (Nat.add (Nat.mul 2 (Nat.pow 32 (Nat.add (Nat.sub (Nat.add p0 (Nat.add p2 (Nat.add p3 0))) (Nat.add n0 (Nat.add n2 (Nat.add n3 0)))) (Nat.add (Nat.sub (Nat.add p1 0) (Nat.add n1 0)) 0)))) (Nat.add (Nat.mul 1 (Nat.pow 32 (Nat.add (Nat.sub (Nat.add p0 (Nat.add p2 0)) (Nat.add n0 (Nat.add n2 0))) (Nat.add (Nat.sub (Nat.add p1 (Nat.add p3 0)) (Nat.add n1 (Nat.add n3 0))) 0)))) (Nat.add (Nat.mul 1 (Nat.pow 32 (Nat.add (Nat.sub (Nat.add p0 0) (Nat.add n0 0)) (Nat.add (Nat.sub (Nat.add p1 (Nat.add p2 0)) (Nat.add n1 (Nat.add n2 0))) (Nat.add (Nat.sub (Nat.add p3 0) (Nat.add n3 0)) 0))))) (Nat.add (Nat.mul 1 (Nat.pow 32 (Nat.add (Nat.sub (Nat.add p0 (Nat.add p3 0)) (Nat.add n0 (Nat.add n3 0))) (Nat.add (Nat.sub (Nat.add p1 (Nat.add p2 0)) (Nat.add n1 (Nat.add n2 0))) 0)))) (Nat.add (Nat.mul 2 (Nat.pow 32 (Nat.add (Nat.sub (Nat.add p0 0) (Nat.add n0 0)) (Nat.add (Nat.sub (Nat.add p1 (Nat.add p2 (Nat.add p3 0))) (Nat.add n1 (Nat.add n2 (Nat.add n3 0)))) 0)))) (Nat.add (Nat.mul 1 (Nat.pow 32 (Nat.add (Nat.sub (Nat.add p0 (Nat.add p1 0)) (Nat.add n0 (Nat.add n1 0))) (Nat.add (Nat.sub (Nat.add p2 0) (Nat.add n2 0)) (Nat.add (Nat.sub (Nat.add p3 0) (Nat.add n3 0)) 0))))) (Nat.add (Nat.mul 2 (Nat.pow 32 (Nat.add (Nat.sub (Nat.add p0 (Nat.add p1 (Nat.add p3 0))) (Nat.add n0 (Nat.add n1 (Nat.add n3 0)))) (Nat.add (Nat.sub (Nat.add p2 0) (Nat.add n2 0)) 0)))) (Nat.add (Nat.mul 1 (Nat.pow 32 (Nat.add (Nat.sub (Nat.add p0 (Nat.add p1 0)) (Nat.add n0 (Nat.add n1 0))) (Nat.add (Nat.sub (Nat.add p2 (Nat.add p3 0)) (Nat.add n2 (Nat.add n3 0))) 0)))) (Nat.add (Nat.mul 2 (Nat.pow 32 (Nat.add (Nat.sub (Nat.add p0 (Nat.add p1 (Nat.add p2 0))) (Nat.add n0 (Nat.add n1 (Nat.add n2 0)))) (Nat.add (Nat.sub (Nat.add p3 0) (Nat.add n3 0)) 0)))) (Nat.add (Nat.mul 6 (Nat.pow 32 (Nat.add (Nat.sub (Nat.add p0 (Nat.add p1 (Nat.add p2 (Nat.add p3 0)))) (Nat.add n0 (Nat.add n1 (Nat.add n2 (Nat.add n3 0))))) 0))) 0)))))))))))))))
def spC (n0 p0 n1 p1 n2 p2 n3 p3 : Nat) : Bool := Nat.beq (spA n0 p0 n1 p1 n2 p2 n3 p3 (Nat.add p0 (Nat.add p1 (Nat.add p2 (Nat.add p3 0)))) (Nat.add n0 (Nat.add n1 (Nat.add n2 (Nat.add n3 0))))) (spB n0 p0 n1 p1 n2 p2 n3 p3)
def six : List (Nat × Nat) := [(3, 0), (2, 0), (1, 0), (0, 1), (0, 2), (0, 3)]
def spAll (n0 p0 : Nat) : Bool := six.all fun a => six.all fun b => six.all fun c => spC n0 p0 a.1 a.2 b.1 b.2 c.1 c.2
theorem sp0 : spAll 3 0 = true := by decide +kernel
theorem sp1 : spAll 2 0 = true := by decide +kernel
theorem sp2 : spAll 1 0 = true := by decide +kernel
theorem sp3 : spAll 0 1 = true := by decide +kernel
theorem sp4 : spAll 0 2 = true := by decide +kernel
theorem sp5 : spAll 0 3 = true := by decide +kernel
theorem sp_any {a b c d : Nat × Nat} (ha : a ∈ six) (hb : b ∈ six) (hc : c ∈ six) (hd : d ∈ six) : spC a.1 a.2 b.1 b.2 c.1 c.2 d.1 d.2 = true := by
  have key : ∀ x ∈ six, spAll x.1 x.2 = true := by
    intro x hx
    simp only [six, List.mem_cons, List.not_mem_nil, or_false] at hx
    rcases hx with rfl | rfl | rfl | rfl | rfl | rfl
    · exact sp0
    · exact sp1
    · exact sp2
    · exact sp3
    · exact sp4
    · exact sp5
  have := key a ha
  unfold spAll at this
  exact List.all_eq_true.mp (List.all_eq_true.mp (List.all_eq_true.mp this b hb) c hc) d hd

/-- numbers in a list, told by one number -/
def S32 (l : List Nat) : Nat := (l.map fun v => 32 ^ v).sum
def dn : List Nat → List Nat
  | [] => []
  | 0 :: r => dn r
  | (v + 1) :: r => v :: dn r
theorem S32_cons (v : Nat) (r : List Nat) : S32 (v :: r) = 32 ^ v + S32 r := rfl
theorem S32_dn : ∀ l, S32 l = l.count 0 + 32 * S32 (dn l)
  | [] => rfl
  | 0 :: r => by
    have := S32_dn r
    rw [S32_cons, dn, List.count_cons_self, this, Nat.pow_zero]; omega
  | (v + 1) :: r => by
    have := S32_dn r
    rw [S32_cons, dn, List.count_cons_of_ne (by simp), this, S32_cons, Nat.pow_succ]; omega
theorem dn_count (a : Nat) : ∀ l, l.count (a + 1) = (dn l).count a
  | [] => rfl
  | 0 :: r => by
    rw [dn, List.count_cons_of_ne (by simp), dn_count a r]
  | (v + 1) :: r => by
    rw [dn, List.count_cons, List.count_cons, dn_count a r]
    by_cases h : v = a
    · subst h; simp
    · have h1 : (v + 1 == a + 1) = false := by simp; exact h
      have h2 : (v == a) = false := by simp; exact h
      rw [h1, h2]
theorem dn_len : ∀ l, (dn l).length ≤ l.length
  | [] => Nat.le_refl _
  | 0 :: r => by have := dn_len r; rw [dn, List.length_cons]; omega
  | (v + 1) :: r => by have := dn_len r; rw [dn, List.length_cons, List.length_cons]; omega
theorem count_of_S32 : ∀ (a : Nat) (l l' : List Nat), l.length ≤ 31 → l'.length ≤ 31 → S32 l = S32 l' → l.count a = l'.count a
  | a, l, l', h, h', e => by
    have h1 := S32_dn l
    have h2 := S32_dn l'
    have h3 : l.count 0 ≤ l.length := List.count_le_length
    have h4 : l'.count 0 ≤ l'.length := List.count_le_length
    have h5 := dn_len l
    have h6 := dn_len l'
    cases a with
    | zero => omega
    | succ a =>
      rw [dn_count, dn_count]
      exact count_of_S32 a (dn l) (dn l') (by omega) (by omega) (by omega)
theorem perm_of_S32 {l l' : List Nat} (h : l.length ≤ 31) (h' : l'.length ≤ 31) (e : S32 l = S32 l') : l.Perm l' :=
  List.perm_iff_count.mpr fun a => count_of_S32 a l l' h h' e
theorem S32_append (a b : List Nat) : S32 (a ++ b) = S32 a + S32 b := by
  unfold S32
  rw [List.map_append, List.sum_append]
theorem S32_replicate (n v : Nat) : S32 (List.replicate n v) = n * 32 ^ v := by
  unfold S32
  rw [List.map_replicate, List.sum_replicate_nat]
theorem S32_flat {α : Type} (c v : α → Nat) : ∀ l : List α, S32 (l.flatMap fun w => List.replicate (c w) (v w)) = (l.map fun w => c w * 32 ^ v w).sum
  | [] => rfl
  | w :: r => by
    rw [List.flatMap_cons, S32_append, S32_replicate, S32_flat c v r]; rfl

/-- known, counted -/
def kn : List Nat := [107, 110, 111, 119, 110]
def C5 (b : List Nat) (n : Nat) : Prop := ∃ b', Scan kn [] b b' ∧ b.length = b'.length + 5 * n
theorem C5.sep {a b : List Nat} {n m : Nat} (h : C5 a n) (h' : C5 b m) : C5 (a ++ 45 :: b) (n + m) := by
  obtain ⟨a', s, e⟩ := h
  obtain ⟨b', s', e'⟩ := h'
  refine ⟨_, scan_sep (by decide) (by decide) s s', ?_⟩
  rw [List.length_append, List.length_append, List.length_cons, List.length_cons]; omega
theorem scan_kn : ∀ w : List Bool, Scan kn [] (enc w) (enc (w.filter fun b => b))
  | [] => .nil
  | true :: r => .miss (fun ⟨t, e⟩ => by injection e with e1; cases e1) (.miss (fun ⟨t, e⟩ => by injection e with e1; cases e1) (scan_kn r))
  | false :: r => .hit (pat := kn) (new := []) (scan_kn r)
theorem C5.pw (p t : Nat) : C5 (pw p t) t := by
  refine ⟨_, scan_kn _, ?_⟩
  show (Mine.pw p t).length = _
  rw [pw_len, enc_len]
  unfold ut
  simp [List.filter_append]
theorem C5.fl : ∀ (r : List (Nat × Nat)) (b : List Nat) (n : Nat), C5 b n → C5 (b ++ fl (r.map fun q => Mine.pw q.1 q.2)) (n + (r.map fun q => q.2).sum)
  | [], b, n, h => by
    show C5 (b ++ []) (n + 0)
    rw [List.append_nil]; exact h
  | q :: r, b, n, h => by
    rw [List.map_cons, List.map_cons, List.sum_cons, Mine.fl]
    split
    · rename_i he
      have h0 := congrArg List.length he
      rw [pw_len] at h0
      have h1 : q.2 = 0 := by simp at h0; omega
      rw [h1, Nat.zero_add]
      exact C5.fl r b n h
    · exact h.sep (C5.fl r _ _ (C5.pw q.1 q.2))
theorem C5.due (l : List (Nat × Nat)) : C5 (due (l.map fun q => Mine.pw q.1 q.2)) (l.map fun q => q.2).sum := by
  cases l with
  | nil => exact ⟨[], .nil, rfl⟩
  | cons q r => exact C5.fl r _ _ (C5.pw q.1 q.2)
theorem chain_len (x y z : Str) (hw : 1 ≤ y.length) (hz : z.cps.toList = []) : ∀ (cuts : List Nat) (a f : Nat), a ≤ x.length → ChainG x y x.length a cuts f → (Str.join z (partsFrom x y.length a cuts)).cps.toList.length + cuts.length * y.length + a = x.length
  | [], a, f, ha, _ => by
    show (strSub x a x.length).cps.toList.length + 0 * _ + a = _
    rw [strSub_toList, List.length_take, List.length_drop, ← len_list]; omega
  | c :: r, a, f, ha, h => by
    have hc := h.2.1.1
    have h1 := h.1
    have ih := chain_len x y z hw hz r (c + y.length) f hc h.2.2.2
    obtain ⟨p, q, e2⟩ := partsFrom_ne x y.length (c + y.length) r
    show (Str.join z (strSub x a c :: partsFrom x y.length (c + y.length) r)).cps.toList.length + (r.length + 1) * _ + a = _
    rw [join_cons_list z _ (by rw [e2]; exact fun h => nomatch h), hz, List.append_nil, List.length_append, strSub_toList, List.length_take, List.length_drop, ← len_list, Nat.add_mul, Nat.one_mul]
    omega
theorem known_list : ("known" : Str).cps.toList = kn := by decide
theorem count_of {x : Str} {n : Nat} (h : C5 x.cps.toList n) : Txt.count x "known" = (n : Int) := by
  obtain ⟨b', s, e⟩ := h
  obtain ⟨f, hG, hn⟩ := occ_tight x "known" (by decide)
  have h1 := scan_parts x "known" "" (by decide) (by rw [known_list, none_list]; exact s) 0 _ f rfl (Nat.zero_le _) hG hn
  have h2 := chain_len x "known" "" (by decide) none_list _ 0 f (Nat.zero_le _) hG
  rw [h1, show ("known" : Str).length = 5 from by decide] at h2
  rw [← len_list] at e
  unfold Txt.count
  congr 1
  omega

def vH (pt : Int × Int) : Nat := (pt.2 - pt.1).toNat
theorem keep_sum (mark : Str) : ∀ l : List (Int × Int), ((l.filter (keepsEnd mark)).map vH).sum = (l.map vH).sum
  | [] => rfl
  | pt :: r => by
    have ih := keep_sum mark r
    rw [List.filter_cons, List.map_cons, List.sum_cons]
    split
    · rw [List.map_cons, List.sum_cons, ih]
    · rename_i h
      have h0 : vH pt = 0 := by
        unfold keepsEnd at h
        simp only [Bool.or_false, Bool.or_eq_true, decide_eq_true_eq, not_or, Decidable.not_not] at h
        unfold vH
        omega
      rw [ih, h0, Nat.zero_add]
theorem count_due (mark : Str) (sums : List (Int × Int)) : Txt.count (dueName (endsF mark sums)) "known" = (((sums.map vH).sum : Nat) : Int) := by
  refine count_of ?_
  rw [due_name]
  have := C5.due ((sums.filter (keepsEnd mark)).map fun pt => ((pt.1 - pt.2).toNat, (pt.2 - pt.1).toNat))
  rw [List.map_map, List.map_map] at this
  rw [← keep_sum mark sums]
  unfold endsF
  rw [List.map_map]
  rw [show (fun x : Str => x.cps.toList) ∘ endOf = (fun q : Nat × Nat => pw q.1 q.2) ∘ (fun pt : Int × Int => ((pt.1 - pt.2).toNat, (pt.2 - pt.1).toNat)) from funext fun pt => by
    show (endOf pt).cps.toList = _
    unfold endOf
    rw [pw_list]; rfl]
  exact this

def ng (st : List Int) (k : Nat) : Nat := (0 - st.getD k 0).toNat
def ps (st : List Int) (k : Nat) : Nat := (st.getD k 0).toNat
theorem heap_nat (st : List Int) : ∀ h : List Nat, heapSum st h = ((((h.map (ng st)).sum : Nat) : Int), (((h.map (ps st)).sum : Nat) : Int))
  | [] => rfl
  | k :: r => by
    have ih := heap_nat st r
    unfold heapSum at *
    injection ih with i1 i2
    simp only [List.map_cons, List.sum_cons, Int.natCast_add]
    rw [i1, i2]
    have : mx (0 - st.getD k 0) 0 = ((ng st k : Nat) : Int) ∧ mx (st.getD k 0) 0 = ((ps st k : Nat) : Int) := by
      unfold mx ng ps
      constructor
      · split <;> omega
      · split <;> omega
    rw [this.1, this.2]
def vW (st : List Int) (w : List (List Nat)) : Nat := (w.map fun h => (h.map (ps st)).sum - (h.map (ng st)).sum).sum
theorem sums_vW (st : List Int) (w : List (List Nat)) : ((sumsF st w).map vH).sum = vW st w := by
  unfold sumsF vW
  rw [List.map_map]
  congr 1
  refine List.map_congr_left fun h _ => ?_
  show vH (heapSum st h) = _
  rw [heap_nat]
  unfold vH
  show ((((h.map (ps st)).sum : Nat) : Int) - (((h.map (ng st)).sum : Nat) : Int)).toNat = _
  omega
theorem ways_range : waysAt 4 = (List.range 15).map fun i => (waysAt 4).getD i [] := by decide
theorem rings_eq (st : List Int) (turn : Int) : ringsUpto st turn 15 = ((waysAt 4).flatMap fun w => List.replicate (countF w).toNat (vW st w)).map fun (n : Nat) => (n : Int) := by
  conv => rhs; rw [ways_range]
  unfold ringsUpto
  rw [List.map_flatMap, List.flatMap_map]
  congr 1
  funext i
  rw [List.map_replicate]
  unfold ringOf
  rw [count_due, sums_vW]

theorem line_fst (fb : Nat × Nat) (s : Int) : (lineStep fb s).1 = fb.1 + (0 - s).toNat - s.toNat := by
  unfold lineStep
  split
  · rename_i h
    obtain ⟨n, rfl⟩ := Int.eq_ofNat_of_zero_le (Int.le_of_lt h)
    rw [Int.zero_sub, Int.toNat_neg_natCast, Int.toNat_natCast, Nat.add_zero]
    show fb.1 - takeN (n : Int) fb.1 = _
    unfold takeN
    by_cases h : n ≤ fb.1
    · rw [if_pos ⟨Int.natCast_nonneg n, Int.ofNat_le.mpr h⟩]; rfl
    · rw [if_neg (fun e => h (Int.ofNat_le.mp e.2)), Nat.sub_self, Nat.sub_eq_zero_of_le (Nat.le_of_lt (Nat.lt_of_not_le h))]
  · rename_i h
    rw [Int.toNat_of_nonpos (Int.not_lt.mp h)]; rfl
theorem line4 (st : List Int) (i j k l P N : Nat) : 32 ^ ((lineF st [i, j, k, l]).1 + P - N) = ex (ng st i) (ps st i) (ng st j) (ps st j) (ng st k) (ps st k) (ng st l) (ps st l) P N := by
  unfold lineF
  simp only [List.foldl_cons, List.foldl_nil, line_fst]
  rw [Nat.zero_add]; rfl
theorem orders_eq : ordersAt 4 = [[3, 2, 1, 0], [2, 3, 1, 0], [2, 1, 3, 0], [2, 1, 0, 3], [3, 1, 2, 0], [1, 3, 2, 0], [1, 2, 3, 0], [1, 2, 0, 3],
  [3, 1, 0, 2], [1, 3, 0, 2], [1, 0, 3, 2], [1, 0, 2, 3], [3, 2, 0, 1], [2, 3, 0, 1], [2, 0, 3, 1], [2, 0, 1, 3],
  [3, 0, 2, 1], [0, 3, 2, 1], [0, 2, 3, 1], [0, 2, 1, 3], [3, 0, 1, 2], [0, 3, 1, 2], [0, 1, 3, 2], [0, 1, 2, 3]] := by decide
theorem ways_eq : waysAt 4 = [[[0], [1], [2], [3]], [[0, 3], [1], [2]], [[0], [1, 3], [2]], [[0], [1], [2, 3]], [[0, 2], [1], [3]], [[0, 2, 3], [1]],
  [[0, 2], [1, 3]], [[0], [1, 2], [3]], [[0, 3], [1, 2]], [[0], [1, 2, 3]], [[0, 1], [2], [3]], [[0, 1, 3], [2]],
  [[0, 1], [2, 3]], [[0, 1, 2], [3]], [[0, 1, 2, 3]]] := by decide
theorem spA_eq (st : List Int) (P N : Nat) : ((ordersAt 4).map fun o => 32 ^ ((lineF st o).1 + P - N)).sum = spA (ng st 0) (ps st 0) (ng st 1) (ps st 1) (ng st 2) (ps st 2) (ng st 3) (ps st 3) P N := by
  rw [orders_eq]
  simp only [List.map_cons, List.map_nil, List.sum_cons, List.sum_nil, line4]
  rfl
theorem spB_eq (st : List Int) : ((waysAt 4).map fun w => (countF w).toNat * 32 ^ vW st w).sum = spB (ng st 0) (ps st 0) (ng st 1) (ps st 1) (ng st 2) (ps st 2) (ng st 3) (ps st 3) := by
  rw [ways_eq]
  simp only [List.map_cons, List.map_nil, List.sum_cons, List.sum_nil, vW]
  rfl
end Mine

end

-- part P7
section
open PySem PySem.W PyProof.Rows
open PySem.Builtin PySem.Builtin.Str PySem.StrLaws
set_option Elab.async false
set_option linter.unusedVariables false
set_option maxRecDepth 100000
set_option pp.deepTerms false
set_option pp.maxSteps 1500
namespace Mine

def itT : Nat → List Bool → List Bool
  | 0, w => w
  | n + 1, w => itT n (redT w)
def fallN (f1 f2 f3 f4 : Nat) : Nat := [0, 0 - f1, 0, 0 - f2, f1 - f2, 0, 0 - f3, f1 - f3, f2 - f3, 0, 0 - f4, f1 - f4, f2 - f4, f3 - f4, 0].foldl Nat.max 0
def wdN (n0 p0 n1 p1 n2 p2 n3 p3 : Nat) : List Bool := ut n0 p0 ++ (ut n1 p1 ++ (ut n2 p2 ++ (ut n3 p3 ++ [])))
def lastN (front P N : Nat) : List Bool := List.replicate (front + P - N) false ++ List.replicate front true
def wdC (w l : List Bool) (n : Nat) : Bool := decide (itT n (redT w) = l) && (match n with | 0 => true | m + 1 => decide (itT m (redT w) ≠ l)) && Nat.ble n 8
def wdD (n0 p0 n1 p1 n2 p2 n3 p3 : Nat) : Bool :=
  wdC (wdN n0 p0 n1 p1 n2 p2 n3 p3) (lastN (n0 - p0 + n1 - p1 + n2 - p2 + n3 - p3) (p0 + (p1 + (p2 + (p3 + 0)))) (n0 + (n1 + (n2 + (n3 + 0)))))
    (fallN (n0 - p0) (n0 - p0 + n1 - p1) (n0 - p0 + n1 - p1 + n2 - p2) (n0 - p0 + n1 - p1 + n2 - p2 + n3 - p3) - 1)
def wdAll (n0 p0 : Nat) : Bool := six.all fun a => six.all fun b => six.all fun c => wdD n0 p0 a.1 a.2 b.1 b.2 c.1 c.2
theorem wd0 : wdAll 3 0 = true := by decide +kernel
theorem wd1 : wdAll 2 0 = true := by decide +kernel
theorem wd2 : wdAll 1 0 = true := by decide +kernel
theorem wd3 : wdAll 0 1 = true := by decide +kernel
theorem wd4 : wdAll 0 2 = true := by decide +kernel
theorem wd5 : wdAll 0 3 = true := by decide +kernel
theorem wd_any {a b c d : Nat × Nat} (ha : a ∈ six) (hb : b ∈ six) (hc : c ∈ six) (hd : d ∈ six) : wdD a.1 a.2 b.1 b.2 c.1 c.2 d.1 d.2 = true := by
  have key : ∀ x ∈ six, wdAll x.1 x.2 = true := by
    intro x hx
    simp only [six, List.mem_cons, List.not_mem_nil, or_false] at hx
    rcases hx with rfl | rfl | rfl | rfl | rfl | rfl
    · exact wd0
    · exact wd1
    · exact wd2
    · exact wd3
    · exact wd4
    · exact wd5
  have := key a ha
  unfold wdAll at this
  exact List.all_eq_true.mp (List.all_eq_true.mp (List.all_eq_true.mp this b hb) c hc) d hd

theorem SOK.mem {st : List Int} (S : SOK st) {k : Nat} (hk : k < 4) : (ng st k, ps st k) ∈ six := by
  have h := S.at hk
  unfold ng ps
  generalize st.getD k 0 = s at h
  have : s = -3 ∨ s = -2 ∨ s = -1 ∨ s = 1 ∨ s = 2 ∨ s = 3 := by omega
  rcases this with rfl | rfl | rfl | rfl | rfl | rfl <;> decide
theorem perm_sum {l l' : List Int} (h : l.Perm l') : l.sum = l'.sum := by
  induction h with
  | nil => rfl
  | cons x _ ih => rw [List.sum_cons, List.sum_cons, ih]
  | swap x y l => simp only [List.sum_cons]; omega
  | trans _ _ h1 h2 => exact h1.trans h2
theorem orders_perm (o : List Nat) (h : o ∈ ordersAt 4) : o.Perm [0, 1, 2, 3] := by
  have : ∀ o ∈ ordersAt 4, o.isPerm [0, 1, 2, 3] = true := by decide
  exact List.isPerm_iff.mp (this o h)
theorem order_sum {st : List Int} (S : SOK st) (o : List Nat) (h : o ∈ ordersAt 4) : (o.map fun k => st.getD k 0).sum = st.sum := by
  rw [perm_sum ((orders_perm o h).map _)]
  have hl := S.len
  match st, hl with
  | [a, b, c, d], _ => rfl
theorem nat_parts (x : Int) : x = (x.toNat : Int) - ((0 - x).toNat : Int) := by omega
theorem st_sum {st : List Int} (S : SOK st) : st.sum = ((ps st 0 + (ps st 1 + (ps st 2 + (ps st 3 + 0))) : Nat) : Int) - ((ng st 0 + (ng st 1 + (ng st 2 + (ng st 3 + 0))) : Nat) : Int) := by
  have hl := S.len
  unfold ps ng
  match st, hl with
  | [a, b, c, d], _ =>
    show a + (b + (c + (d + 0))) = ((a.toNat + (b.toNat + (c.toNat + (d.toNat + 0))) : Nat) : Int) - (((0 - a).toNat + ((0 - b).toNat + ((0 - c).toNat + ((0 - d).toNat + 0))) : Nat) : Int)
    have ha := nat_parts a
    have hb := nat_parts b
    have hc := nat_parts c
    have hd := nat_parts d
    generalize a.toNat = a1 at *
    generalize b.toNat = b1 at *
    generalize c.toNat = c1 at *
    generalize d.toNat = d1 at *
    generalize (0 - a).toNat = a2 at *
    generalize (0 - b).toNat = b2 at *
    generalize (0 - c).toNat = c2 at *
    generalize (0 - d).toNat = d2 at *
    omega
theorem line_step {s : Int} {f b : Nat} (hs : -3 ≤ s ∧ s ≤ 3) (hb : 3 ≤ b) : (lineStep (f, b) s).1 ≤ f + 3 ∧ (lineStep (f, b) s).2 ≤ b ∧ b ≤ (lineStep (f, b) s).2 + 3 ∧ (((lineStep (f, b) s).1 : Nat) : Int) + (((lineStep (f, b) s).2 : Nat) : Int) = (f : Int) + b - s := by
  unfold lineStep
  split
  · rename_i h
    obtain ⟨n, rfl⟩ := Int.eq_ofNat_of_zero_le (Int.le_of_lt h)
    have hn : n ≤ 3 := by omega
    clear hs h
    have e : takeN (n : Int) f = if n ≤ f then n else f := by
      unfold takeN
      by_cases h : n ≤ f
      · rw [if_pos ⟨Int.natCast_nonneg n, Int.ofNat_le.mpr h⟩, if_pos h]; rfl
      · rw [if_neg (fun e => h (Int.ofNat_le.mp e.2)), if_neg h]
    by_cases h : n ≤ f
    · rw [e, if_pos h, Int.sub_self]
      have e2 : takeN 0 b = 0 := by unfold takeN; rw [if_pos ⟨Int.le_refl _, Int.natCast_nonneg b⟩]; rfl
      rw [e2]
      show f - n ≤ f + 3 ∧ b - 0 ≤ b ∧ b ≤ b - 0 + 3 ∧ ((f - n : Nat) : Int) + ((b - 0 : Nat) : Int) = _
      omega
    · rw [e, if_neg h]
      have e2 : takeN ((n : Int) - (f : Int)) b = n - f := by
        unfold takeN
        rw [if_pos (by omega)]
        omega
      rw [e2]
      show f - f ≤ f + 3 ∧ b - (n - f) ≤ b ∧ b ≤ b - (n - f) + 3 ∧ ((f - f : Nat) : Int) + ((b - (n - f) : Nat) : Int) = _
      omega
  · show f + _ ≤ f + 3 ∧ b ≤ b ∧ b ≤ b + 3 ∧ ((f + _ : Nat) : Int) + (b : Int) = _
    omega
theorem line_run {st : List Int} (S : SOK st) : ∀ (o : List Nat) (f b : Nat), (∀ k ∈ o, k < 4) → 3 * o.length ≤ b →
    (o.foldl (fun fb k => lineStep fb (st.getD k 0)) (f, b)).1 ≤ f + 3 * o.length ∧ (o.foldl (fun fb k => lineStep fb (st.getD k 0)) (f, b)).2 ≤ b ∧
    (((o.foldl (fun fb k => lineStep fb (st.getD k 0)) (f, b)).1 : Nat) : Int) + (((o.foldl (fun fb k => lineStep fb (st.getD k 0)) (f, b)).2 : Nat) : Int) = (f : Int) + (b : Int) - (o.map fun k => st.getD k 0).sum
  | [], f, b, _, _ => ⟨Nat.le_refl _, Nat.le_refl _, by simp⟩
  | k :: r, f, b, h, hb => by
    have hk := S.at (h k (List.mem_cons_self ..))
    rw [List.foldl_cons, List.map_cons, List.sum_cons]
    generalize st.getD k 0 = s at hk ⊢
    rw [List.length_cons] at hb
    have e := line_step (f := f) hk.2 (show 3 ≤ b by omega)
    obtain ⟨⟨f', b'⟩, hq⟩ : ∃ q, lineStep (f, b) s = q := ⟨_, rfl⟩
    rw [hq] at e ⊢
    obtain ⟨e1, e2, e3, e4⟩ := e
    have ih := line_run S r f' b' (fun j hj => h j (List.mem_cons_of_mem _ hj)) (by simp only at e3; omega)
    simp only at e1 e2 e3 e4
    rw [List.length_cons]
    omega
theorem bal_fact {st : List Int} (S : SOK st) (o : List Nat) (h : o ∈ ordersAt 4) : (lineF st o).1 ≤ 12 ∧ (lineF st o).2 ≤ 12 ∧ ((lineF st o).2 : Int) = 12 - lackF st o := by
  have hl := ordersAt_len 4 o h
  obtain ⟨h1, h2, h3⟩ := line_run S o 0 12 (orders_lt o h) (by omega)
  rw [order_sum S o h] at h3
  unfold lackF lineF
  omega

theorem lack_nat {st : List Int} (S : SOK st) (o : List Nat) (h : o ∈ ordersAt 4) : lackF st o = (((lineF st o).1 + (ps st 0 + (ps st 1 + (ps st 2 + (ps st 3 + 0)))) - (ng st 0 + (ng st 1 + (ng st 2 + (ng st 3 + 0)))) : Nat) : Int) := by
  obtain ⟨h1, h2, h3⟩ := bal_fact S o h
  have hs := st_sum S
  unfold lackF at *
  omega
theorem spitz_fact {st : List Int} (S : SOK st) (turn : Int) : ((ordersAt 4).map (lackF st)).Perm (ringsUpto st turn 15) := by
  rw [rings_eq, show (ordersAt 4).map (lackF st) = ((ordersAt 4).map fun o => (lineF st o).1 + (ps st 0 + (ps st 1 + (ps st 2 + (ps st 3 + 0)))) - (ng st 0 + (ng st 1 + (ng st 2 + (ng st 3 + 0))))).map fun (n : Nat) => (n : Int) from ?_]
  · refine List.Perm.map _ (perm_of_S32 ?_ ?_ ?_)
    · rw [List.length_map, orders_eq]; decide
    · rw [List.length_flatMap]
      simp only [List.length_replicate]
      have : ((waysAt 4).map fun w => (countF w).toNat).sum = 24 := by decide
      rw [this]; decide
    · rw [S32_flat, spB_eq]
      unfold S32
      rw [List.map_map]
      have hsp := sp_any (S.mem (k := 0) (by decide)) (S.mem (k := 1) (by decide)) (S.mem (k := 2) (by decide)) (S.mem (k := 3) (by decide))
      unfold spC at hsp
      have hsp := Nat.eq_of_beq_eq_true hsp
      rw [← hsp]
      exact spA_eq st _ _
  · rw [List.map_map]
    exact List.map_congr_left fun o ho => lack_nat S o ho

theorem find_fact (f b : Nat) : Txt.find (padded f b) inkS = (f : Int) := by
  have hA : At (padded f b) inkS (padded f b).length f := (at_iff (x := padded f b) (y := inkS) (by decide) f).mpr (by
    show inkL <+: (padL f b).drop f
    have e : (padL f b).drop f = inkL ++ List.replicate b 32 := by
      unfold padL
      rw [List.append_assoc, List.drop_append_of_le_length (by rw [List.length_replicate]; exact Nat.le_refl _), List.drop_eq_nil_iff.mpr (by rw [List.length_replicate]; exact Nat.le_refl _)]; rfl
    rw [e]; exact List.prefix_append ..)
  unfold Txt.find
  rcases occ_head (padded f b) inkS 1 (Nat.le_refl _) with ⟨_, hn⟩ | ⟨i, r, e, hi, hn⟩
  · exact absurd hA (hn f)
  · rw [e]
    show (i : Int) = f
    have h1 : ¬ f < i := fun h => hn f h hA
    have h2 : ¬ i < f := fun h => by
      obtain ⟨t, ht⟩ := (at_iff (x := padded f b) (y := inkS) (by decide) i).mp hi
      have ht : inkL ++ t = (padL f b).drop i := ht
      have h3 : ((padL f b).drop i)[0]? = some 32 := by
        rw [List.getElem?_drop]
        unfold padL
        rw [List.append_assoc, List.getElem?_append_left (by rw [List.length_replicate]; omega), List.getElem?_replicate_of_lt (by omega)]
      rw [← ht] at h3
      cases h3
    omega

theorem rn_enc (w : List Bool) : ∀ n, ∀ w, rn n [enc w] = [enc (itT n w)]
  | 0, w => rfl
  | n + 1, w => by
    show rn n [red (enc w)] = _
    rw [red_enc, rn_enc w n (redT w)]; rfl
theorem itT_succ : ∀ (n : Nat) (w : List Bool), itT (n + 1) w = redT (itT n w)
  | 0, w => rfl
  | n + 1, w => by
    show itT (n + 1) (redT w) = redT (itT n (redT w))
    exact itT_succ n (redT w)
theorem itT_fix {i : Nat} {w : List Bool} (h : redT (itT i w) = itT i w) : ∀ j, itT (i + j) w = itT i w
  | 0 => rfl
  | j + 1 => by
    show itT (i + j + 1) w = _
    rw [itT_succ, itT_fix h j, h]
theorem redT_last (b : Nat) : ∀ a, redT (List.replicate a false ++ List.replicate b true) = List.replicate a false ++ List.replicate b true
  | 0 => redT_un b
  | a + 1 => by
    rw [List.replicate_succ, List.cons_append, redT, redT_last b a]

/-- the greatest of a list in which nought stands -/
theorem max_fold : ∀ (L : List Int) (a : Nat), a ≤ (L.map Int.toNat).foldl Nat.max a ∧ (∀ x ∈ L, x ≤ (((L.map Int.toNat).foldl Nat.max a : Nat) : Int)) ∧ ((L.map Int.toNat).foldl Nat.max a = a ∨ ((((L.map Int.toNat).foldl Nat.max a : Nat) : Int) ∈ L))
  | [], a => ⟨Nat.le_refl _, fun _ h => (nomatch h), .inl rfl⟩
  | x :: L, a => by
    rw [List.map_cons, List.foldl_cons]
    obtain ⟨h1, h2, h3⟩ := max_fold L (Nat.max a x.toNat)
    have m1 : a ≤ Nat.max a x.toNat := Nat.le_max_left ..
    have m2 : x.toNat ≤ Nat.max a x.toNat := Nat.le_max_right ..
    have m3 : Nat.max a x.toNat = a ∨ (Nat.max a x.toNat = x.toNat ∧ a < x.toNat) := by
      show max a x.toNat = a ∨ (max a x.toNat = x.toNat ∧ a < x.toNat)
      omega
    refine ⟨Nat.le_trans m1 h1, fun y hy => ?_, ?_⟩
    · rcases List.mem_cons.mp hy with rfl | hy
      · omega
      · exact h2 y hy
    · rcases h3 with h3 | h3
      · rcases m3 with m3 | ⟨m3, m4⟩
        · exact .inl (h3.trans m3)
        · refine .inr ?_
          rw [h3, m3]
          rw [show ((x.toNat : Nat) : Int) = x from by omega]
          exact List.mem_cons_self ..
      · exact .inr (List.mem_cons_of_mem _ h3)
end Mine

end

-- part P8
section
open PySem PySem.W PyProof.Rows
open PySem.Builtin PySem.Builtin.Str PySem.StrLaws
set_option Elab.async false
set_option linter.unusedVariables false
set_option maxRecDepth 100000
set_option pp.deepTerms false
set_option pp.maxSteps 1500
namespace Mine

def frN (st : List Int) : Nat → Nat
  | 0 => 0
  | k + 1 => frN st k + ng st k - ps st k
theorem front_mx (f : Nat) (s : Int) : mx ((f : Int) - s) 0 = ((f + (0 - s).toNat - s.toNat : Nat) : Int) := by
  unfold mx
  split <;> omega
theorem fronts_nat (st : List Int) : ∀ k, frontsAt st k = (List.range (k + 1)).map fun i => ((frN st i : Nat) : Int)
  | 0 => rfl
  | k + 1 => by
    rw [frontsAt, fronts_nat st k, List.range_succ (n := k + 1), List.map_append]
    congr 1
    rw [List.getD_eq_getElem?_getD, List.getElem?_map, List.getElem?_range (by omega)]
    show [mx (((frN st k : Nat) : Int) - st.getD k 0) 0] = [((frN st k + ng st k - ps st k : Nat) : Int)]
    rw [front_mx]; rfl
theorem line_front (st : List Int) : (lineF st [0, 1, 2, 3]).1 = frN st 4 := by
  unfold lineF
  simp only [List.foldl_cons, List.foldl_nil, line_fst]
  rfl
theorem fall_eq (f0 f1 f2 f3 f4 : Int) : fallL [f0, f1, f2, f3, f4] = [f0 - f0, f0 - f1, f1 - f1, f0 - f2, f1 - f2, f2 - f2, f0 - f3, f1 - f3, f2 - f3, f3 - f3, f0 - f4, f1 - f4, f2 - f4, f3 - f4, f4 - f4] := rfl
theorem fall_nat (f1 f2 f3 f4 : Nat) : (fallL [((0 : Nat) : Int), (f1 : Int), (f2 : Int), (f3 : Int), (f4 : Int)]).map Int.toNat = [0, 0 - f1, 0, 0 - f2, f1 - f2, 0, 0 - f3, f1 - f3, f2 - f3, 0, 0 - f4, f1 - f4, f2 - f4, f3 - f4, 0] := by
  rw [fall_eq]
  simp only [List.map_cons, List.map_nil, Int.toNat_sub, Nat.sub_self]
theorem fall_max (f1 f2 f3 f4 : Nat) : ((fallN f1 f2 f3 f4 : Nat) : Int) ∈ fallL [((0 : Nat) : Int), (f1 : Int), (f2 : Int), (f3 : Int), (f4 : Int)] ∧ ∀ a ∈ fallL [((0 : Nat) : Int), (f1 : Int), (f2 : Int), (f3 : Int), (f4 : Int)], a ≤ ((fallN f1 f2 f3 f4 : Nat) : Int) := by
  obtain ⟨h1, h2, h3⟩ := max_fold (fallL [((0 : Nat) : Int), (f1 : Int), (f2 : Int), (f3 : Int), (f4 : Int)]) 0
  rw [fall_nat] at h1 h2 h3
  have e : fallN f1 f2 f3 f4 = [0, 0 - f1, 0, 0 - f2, f1 - f2, 0, 0 - f3, f1 - f3, f2 - f3, 0, 0 - f4, f1 - f4, f2 - f4, f3 - f4, 0].foldl Nat.max 0 := rfl
  rw [← e] at h1 h2 h3
  refine ⟨?_, h2⟩
  rcases h3 with h | h
  · rw [h, fall_eq]; exact List.mem_cons_self ..
  · exact h

def wdS (st : List Int) : List Bool := wdN (ng st 0) (ps st 0) (ng st 1) (ps st 1) (ng st 2) (ps st 2) (ng st 3) (ps st 3)
def lastW (st : List Int) : List Bool := lastN (frN st 4) (ps st 0 + (ps st 1 + (ps st 2 + (ps st 3 + 0)))) (ng st 0 + (ng st 1 + (ng st 2 + (ng st 3 + 0))))
theorem step_text (x : Int) : (Txt.mul "un" (mx (0 - x) 0) ++ Txt.mul "known" (mx x 0)).cps.toList = enc (ut (0 - x).toNat x.toNat) := by
  rw [pw_list]
  have h1 : (mx (0 - x) 0).toNat = (0 - x).toNat := by unfold mx; split <;> omega
  have h2 : (mx x 0).toNat = x.toNat := by unfold mx; split <;> omega
  rw [h1, h2]; rfl
theorem jl_empty : ∀ bs : List (List Nat), jl [] bs = bs.flatten
  | [] => rfl
  | [b] => by simp [jl]
  | b :: c :: r => by
    rw [jl_cons _ _ (List.cons_ne_nil c r), jl_empty (c :: r), List.append_nil, List.flatten_cons (l := b)]
theorem word_list {st : List Int} (S : SOK st) : wordF st = strL (enc (wdS st)) := by
  apply Str.ext_list
  unfold wordF
  rw [join_jl, none_list, jl_empty, List.map_map]
  show (st.map fun x => (Txt.mul "un" (mx (0 - x) 0) ++ Txt.mul "known" (mx x 0)).cps.toList).flatten = enc (wdS st)
  simp only [step_text]
  have hl := S.len
  match st, hl with
  | [a, b, c, d], _ =>
    show enc _ ++ (enc _ ++ (enc _ ++ (enc _ ++ []))) = enc (ut _ _ ++ (ut _ _ ++ (ut _ _ ++ (ut _ _ ++ []))))
    rw [enc_append, enc_append, enc_append, enc_append]; rfl
theorem last_list {st : List Int} (S : SOK st) : lastName st = strL (enc (lastW st)) := by
  apply Str.ext_list
  unfold lastName
  have h := st_sum S
  rw [append_list, mul_un, mul_known, line_front]
  show _ = enc (List.replicate _ false ++ List.replicate _ true)
  rw [enc_append]
  congr 3
  omega
theorem enc_len_le (w : List Bool) : (enc w).length ≤ 5 * w.length := by
  rw [enc_len]
  have : (w.filter fun b => b).length + (w.filter fun b => !b).length = w.length := by
    induction w with
    | nil => rfl
    | cons a r ih => cases a <;> simp at * <;> omega
  omega
theorem SOK.le {st : List Int} (S : SOK st) {k : Nat} (hk : k < 4) : ng st k + ps st k ≤ 3 := by
  have := S.at hk
  unfold ng ps
  omega
theorem wd_len {st : List Int} (S : SOK st) : (wdS st).length ≤ 12 := by
  have h0 := S.le (k := 0) (by decide)
  have h1 := S.le (k := 1) (by decide)
  have h2 := S.le (k := 2) (by decide)
  have h3 := S.le (k := 3) (by decide)
  unfold wdS wdN ut
  simp only [List.length_append, List.length_replicate, List.length_nil]
  omega
theorem wd_check {st : List Int} (S : SOK st) : wdC (wdS st) (lastW st) (fallN (frN st 1) (frN st 2) (frN st 3) (frN st 4) - 1) = true := by
  have h := wd_any (S.mem (k := 0) (by decide)) (S.mem (k := 1) (by decide)) (S.mem (k := 2) (by decide)) (S.mem (k := 3) (by decide))
  unfold wdD at h
  have e : frN st 1 = ng st 0 - ps st 0 := by show 0 + ng st 0 - ps st 0 = _; rw [Nat.zero_add]
  unfold lastW wdS
  rw [show frN st 4 = frN st 1 + ng st 1 - ps st 1 + ng st 2 - ps st 2 + ng st 3 - ps st 3 from rfl, show frN st 3 = frN st 1 + ng st 1 - ps st 1 + ng st 2 - ps st 2 from rfl, show frN st 2 = frN st 1 + ng st 1 - ps st 1 from rfl, e]
  exact h
theorem lastW_fix (st : List Int) : redT (lastW st) = lastW st := redT_last _ _
theorem word_first {st : List Int} (S : SOK st) : Plat (handedF "" [wordF st]) (strL (due [enc (redT (wdS st))])) := by
  have hw := word_list S
  have hs : ∀ x ∈ [wordF st], x.length ≤ 100 := fun x hx => by
    rw [List.mem_singleton.mp hx, hw, len_list]
    have h1 := enc_len_le (wdS st)
    have h2 := wd_len S
    show (enc (wdS st)).length ≤ 100
    omega
  have := plat_bare (texts := [wordF st]) (fun x hx => by rw [List.mem_singleton.mp hx, hw]; exact enc_ltrs _) (show 1 ≤ 4 by decide) hs
  rw [List.filter_cons] at this
  by_cases h : (wordF st).length ≠ 0
  · rw [if_pos (decide_eq_true h)] at this
    have e : due (([wordF st].map fun x => x.cps.toList).map red) = due [enc (redT (wdS st))] := by
      rw [hw, ← red_enc]; rfl
    rw [← e]; exact this
  · rw [if_neg (by rw [decide_eq_false h]; simp)] at this
    have h0 : enc (wdS st) = [] := by
      rw [hw, len_list] at h
      exact List.length_eq_zero_iff.mp (Classical.byContradiction h)
    have e : due [enc (redT (wdS st))] = [] := by rw [← red_enc, h0, red_nil]; rfl
    rw [e]; exact this
theorem word_fact {st : List Int} (S : SOK st) : ∃ (r : Nat) (mm : Int), Tidy "" [wordF st] (lastName st) r ∧ mm ∈ fallL (frontsAt st 4) ∧ (∀ a ∈ fallL (frontsAt st 4), a ≤ mm) ∧ (r : Int) = mx mm 1 := by
  have hfr : frontsAt st 4 = [((0 : Nat) : Int), ((frN st 1 : Nat) : Int), ((frN st 2 : Nat) : Int), ((frN st 3 : Nat) : Int), ((frN st 4 : Nat) : Int)] := fronts_nat st 4
  obtain ⟨f1, f2⟩ := fall_max (frN st 1) (frN st 2) (frN st 3) (frN st 4)
  have hc := wd_check S
  rw [hfr]
  generalize fallN (frN st 1) (frN st 2) (frN st 3) (frN st 4) = m at f1 f2 hc
  refine ⟨1 + (m - 1), (m : Int), ?_, f1, f2, by unfold mx; split <;> omega⟩
  generalize m - 1 = n at hc
  unfold wdC at hc
  rw [Bool.and_eq_true, Bool.and_eq_true, decide_eq_true_eq] at hc
  obtain ⟨⟨c1, c2⟩, c3⟩ := hc
  have c3 := Nat.le_of_ble_eq_true c3
  have h2 := wd_len S
  have hlt : Lt [enc (redT (wdS st))] := fun c hc => by
    rw [List.mem_singleton.mp hc]; exact enc_ltrs _
  have hw1 := word_list S
  have hwt : wtL [enc (redT (wdS st))] ≤ 1000 := by
    have h1 := enc_len_le (wdS st)
    have h3 := red_len (enc (wdS st))
    rw [red_enc] at h3
    show (enc (redT (wdS st))).length + 0 + 1 ≤ 1000
    omega
  have key := rnd_of n [enc (redT (wdS st))] 1 hlt hwt (fun i hi => ?_) (fun c hc => ?_) (by omega)
  · refine ⟨show 1 ≤ 4 by decide, fun x hx => ?_, by decide, _, n, word_first S, ?_⟩
    · rw [List.mem_singleton.mp hx, hw1, len_list]
      have h1 := enc_len_le (wdS st)
      show (enc (wdS st)).length ≤ 100
      omega
    · rw [rn_enc (wdS st), c1] at key
      rw [last_list S]
      have e : due [enc (lastW st)] = enc (lastW st) := List.append_nil _
      rw [e] at key
      exact key
  · refine ⟨enc (itT i (redT (wdS st))), by rw [rn_enc (wdS st)]; exact List.mem_singleton.mpr rfl, fun e => ?_⟩
    rw [red_enc] at e
    have e := enc_inj e
    cases n with
    | zero => omega
    | succ n =>
      have h3 : itT n (redT (wdS st)) ≠ lastW st := of_decide_eq_true c2
      obtain ⟨j, rfl⟩ : ∃ j, n = i + j := ⟨n - i, by omega⟩
      apply h3
      rw [itT_fix e j, ← c1]
      exact (itT_fix e (j + 1)).symm
  · rw [rn_enc (wdS st), c1] at hc
    rw [List.mem_singleton.mp hc, red_enc, lastW_fix]

/-- the last four names -/
def inkM : List Nat := [120, 32, 32, 9, 89, 46, 43, 64]
def inkT : List Nat := [120, 95, 95, 9, 89, 46, 43, 64]
theorem strip_pad (f b : Nat) : Txt.strip (padded f b) = strL inkM := by
  have h := strip_core (a := List.replicate f 32 ++ [9]) (m := inkM) (b := 9 :: List.replicate b 32) (fun k hk => ?_) (fun k hk => ?_) (fun c hc => by cases hc; decide) (fun c hc => by cases hc; decide) (by decide)
  · rw [← h]
    congr 1
    apply Str.ext_list
    show List.replicate f 32 ++ inkL ++ List.replicate b 32 = List.replicate f 32 ++ [9] ++ (inkM ++ 9 :: List.replicate b 32)
    rw [List.append_assoc, List.append_assoc]; rfl
  · rcases List.mem_append.mp hk with hk | hk
    · rw [List.eq_of_mem_replicate hk]; decide
    · rw [List.mem_singleton.mp hk]; decide
  · rcases List.mem_cons.mp hk with rfl | hk
    · decide
    · rw [List.eq_of_mem_replicate hk]; decide
theorem red_lack {l : List Nat} (h : 117 ∉ l) : red l = l := by
  rcases scan_found unk_ne (red_scan l) with ⟨h1, _⟩ | ⟨_, k, t, ht⟩
  · exact h1
  · exfalso
    apply h
    refine List.mem_of_mem_drop (i := k) ?_
    rw [← ht]
    exact List.mem_append_left _ (by decide)
theorem map_jl : ∀ bs : List (List Nat), (jl [45] bs).map sub1 = jl [45] (bs.map fun b => b.map sub1)
  | [] => rfl
  | [b] => rfl
  | b :: c :: r => by
    rw [jl_cons [45] b (List.cons_ne_nil c r), List.map_append, List.map_append, map_jl (c :: r)]
    exact (jl_cons [45] (b.map sub1) (r := (c :: r).map fun b => b.map sub1) (by simp)).symm
theorem plat_texts {xs : List Str} {cs : List (List Nat)} (few : xs.length ≤ 10) (wt : (xs.map (·.length)).sum + xs.length ≤ 10000) (h : (((xs.filter fun x => decide (x.length ≠ 0)).map Txt.strip).map fun x => x.cps.toList.map sub1) = cs) (hf : Free cs) : Plat xs (strL (due (cs.map red))) := by
  rw [← nz_jl 0 _ hf.red, ← red_jl]
  refine plat_of few wt ?_
  unfold joinF
  rw [join_jl, show (("-" : Str)).cps.toList = [45] from by decide, map_jl, ← h, List.map_map]
  rfl
theorem fl_skip (b : List Nat) : fl (if b = [] then [] else [b]) = fl [b] := by
  by_cases h : b = []
  · rw [if_pos h, h]; rfl
  · rw [if_neg h]
theorem name_texts {nm : List Nat} (hn : ∀ k ∈ nm, k ∈ ltrs) : ((([strL nm].filter fun x => decide (x.length ≠ 0)).map Txt.strip).map fun x => x.cps.toList.map sub1) = if nm = [] then [] else [nm] := by
  by_cases h : nm = []
  · subst h; rfl
  · have h0 : (strL nm).length ≠ 0 := by
      rw [len_list]; exact fun e => h (List.length_eq_zero_iff.mp e)
    rw [if_neg h, List.filter_cons, if_pos (decide_eq_true h0)]
    show [(Txt.strip (strL nm)).cps.toList.map sub1] = [nm]
    rw [strip_bare (fun k hk => (ltr_plain k (List.mem_cons_of_mem _ (hn k hk))).1) h]
    rw [map_plain (l := (strL nm).cps.toList) fun k hk => (ltr_plain k (List.mem_cons_of_mem _ (hn k hk))).2]
theorem pad_texts (f b : Nat) : ((([padded f b].filter fun x => decide (x.length ≠ 0)).map Txt.strip).map fun x => x.cps.toList.map sub1) = [inkT] := by
  have h0 : (padded f b).length ≠ 0 := by
    rw [len_list]
    show (List.replicate f 32 ++ inkL ++ List.replicate b 32).length ≠ 0
    rw [List.length_append, List.length_append]
    show _ + 10 + _ ≠ 0
    omega
  rw [List.filter_cons, if_pos (decide_eq_true h0)]
  show [(Txt.strip (padded f b)).cps.toList.map sub1] = [inkT]
  rw [strip_pad]
  decide
theorem plat_tail {pre : List Str} {cs : List (List Nat)} {f b : Nat} {nm : List Nat} (hp : (((pre.filter fun x => decide (x.length ≠ 0)).map Txt.strip).map fun x => x.cps.toList.map sub1) = cs) (hf : Free cs) (few : pre.length ≤ 1) (hw : (pre.map (·.length)).sum ≤ 10) (hfb : f ≤ 12 ∧ b ≤ 12)
    (hn : ∀ k ∈ nm, k ∈ ltrs) (hr : red nm = nm) (hl : nm.length ≤ 100) : Plat (pre ++ [padded f b, strL nm]) (strL (due (cs.map red ++ [inkT, nm]))) := by
  have key := plat_texts (xs := pre ++ [padded f b, strL nm]) (cs := cs ++ ([inkT] ++ if nm = [] then [] else [nm])) ?_ ?_ ?_ ?_
  · have e : due (cs.map red ++ [inkT, nm]) = due ((cs ++ ([inkT] ++ if nm = [] then [] else [nm])).map red) := by
      rw [List.map_append, List.map_append]
      have e1 : [inkT].map red = [inkT] := by
        show [red inkT] = _
        rw [red_lack (by decide)]
      have e2 : (if nm = [] then [] else [nm]).map red = (if nm = [] then [] else [nm]) := by
        split
        · rfl
        · show [red nm] = _
          rw [hr]
      rw [e1, e2]
      generalize cs.map red = ds
      have e3 : ∀ ds : List (List Nat), fl (ds ++ [inkT, nm]) = fl (ds ++ ([inkT] ++ if nm = [] then [] else [nm])) := by
        intro ds
        induction ds with
        | nil =>
          exact congrArg (fun z => 45 :: (inkT ++ z)) (fl_skip nm).symm
        | cons d r ih =>
          rw [List.cons_append, List.cons_append, fl, fl, ih]
      cases ds with
      | nil =>
        exact congrArg (fun z => inkT ++ z) (fl_skip nm).symm
      | cons d r =>
        exact congrArg (fun z => d ++ z) (e3 r)
    rw [e]; exact key
  · rw [List.length_append]
    show pre.length + 2 ≤ 10
    omega
  · rw [List.map_append, List.sum_append, List.length_append]
    show _ + ((padded f b).length + ((strL nm).length + 0)) + (pre.length + 2) ≤ 10000
    rw [len_list (padded f b), len_list (strL nm)]
    show _ + ((List.replicate f 32 ++ inkL ++ List.replicate b 32).length + (nm.length + 0)) + (pre.length + 2) ≤ 10000
    rw [List.length_append, List.length_append, List.length_replicate, List.length_replicate]
    show _ + (f + 10 + b + _) + _ ≤ 10000
    omega
  · rw [List.filter_append, List.map_append, List.map_append, hp]
    congr 1
    have h1 := pad_texts f b
    have h2 := name_texts hn
    rw [show [padded f b, strL nm] = [padded f b] ++ [strL nm] from rfl, List.filter_append, List.map_append, List.map_append, h1, h2]
  · intro c hc
    rcases List.mem_append.mp hc with hc | hc
    · exact hf c hc
    · rcases List.mem_append.mp hc with hc | hc
      · rw [List.mem_singleton.mp hc]; decide
      · split at hc
        · cases hc
        · rw [List.mem_singleton.mp hc]
          exact fun m => absurd (hn 45 m) (by decide)
theorem tail_list (nm : List Nat) : (tailF (strL nm)).cps.toList = inkT ++ fl [nm] := by
  unfold tailF
  rw [append_list, append_list, mul_list, show ("-" : Str).cps.toList = [45] from by decide, show ("x__\tY.+@" : Str).cps.toList = inkT from by decide]
  cases nm with
  | nil => rfl
  | cons c r =>
    have : (mn ((strL (c :: r)).length : Int) 1).toNat = 1 := by
      rw [len_list]
      show (mn (((r.length + 1 : Nat)) : Int) 1).toNat = 1
      unfold mn
      split <;> omega
    rw [this]
    show inkT ++ [45] ++ (c :: r) = inkT ++ (if c :: r = [] then fl [] else 45 :: ((c :: r) ++ []))
    rw [if_neg (List.cons_ne_nil c r), List.append_nil, List.append_assoc]; rfl
def unkU : List Nat := [85, 110, 107, 110, 111, 119, 110]
theorem blank_U : blankF "Unknown" = strL unkU := by decide
theorem last_fix {st : List Int} : red (enc (lastW st)) = enc (lastW st) := by rw [red_enc, lastW_fix]
theorem last_len {st : List Int} (S : SOK st) : (enc (lastW st)).length ≤ 100 := by
  obtain ⟨h1, h2, h3⟩ := bal_fact S [0, 1, 2, 3] (by rw [orders_eq]; decide)
  have hs := st_sum S
  unfold lackF at h3
  rw [line_front] at h1 h3
  unfold lastW lastN
  rw [enc_append, List.length_append]
  have a1 := enc_len_le (List.replicate (frN st 4) true)
  have a2 := enc_len_le (List.replicate (frN st 4 + (ps st 0 + (ps st 1 + (ps st 2 + (ps st 3 + 0)))) - (ng st 0 + (ng st 1 + (ng st 2 + (ng st 3 + 0))))) false)
  rw [enc_len, List.length_replicate] at a1 a2
  have b1 : (enc (List.replicate (frN st 4) true)).length = 2 * frN st 4 := by
    have := pw_len (frN st 4) 0
    unfold pw ut at this
    simpa using this
  rw [b1]
  have a2 := enc_len_le (List.replicate (frN st 4 + (ps st 0 + (ps st 1 + (ps st 2 + (ps st 3 + 0)))) - (ng st 0 + (ng st 1 + (ng st 2 + (ng st 3 + 0))))) false)
  rw [List.length_replicate] at a2
  omega

theorem steps_ok (l : List Int) : SOK (stepsF l) where
  len := by unfold stepsF; rw [List.length_map, cellsAt_length]
  rng := fun x hx => by
    obtain ⟨c, _, rfl⟩ := List.mem_map.mp hx
    unfold stepOf
    have h : 0 ≤ c.fmod 6 ∧ c.fmod 6 < 6 := by
      rw [Int.fmod_eq_emod_of_nonneg _ (by decide)]; omega
    generalize c.fmod 6 = j at h
    have : j = 0 ∨ j = 1 ∨ j = 2 ∨ j = 3 ∨ j = 4 ∨ j = 5 := by omega
    rcases this with rfl | rfl | rfl | rfl | rfl | rfl <;> decide
theorem law_facts {st : List Int} (S : SOK st) (turn : Int) : LawFacts st turn := by
  have h0123 : [0, 1, 2, 3] ∈ ordersAt 4 := by rw [orders_eq]; decide
  obtain ⟨hf, hb, _⟩ := bal_fact S [0, 1, 2, 3] h0123
  have hn := last_list S
  have hlt : ∀ k ∈ enc (lastW st), k ∈ ltrs := enc_ltrs _
  have pt : ∀ (pre : List Str) (cs : List (List Nat)) (y : Str), (((pre.filter fun x => decide (x.length ≠ 0)).map Txt.strip).map fun x => x.cps.toList.map sub1) = cs → Free cs → pre.length ≤ 1 → (pre.map (·.length)).sum ≤ 10 → y.cps.toList = due (cs.map red ++ [inkT, enc (lastW st)]) →
      Plat (pre ++ [padded (lineF st [0, 1, 2, 3]).1 (lineF st [0, 1, 2, 3]).2, lastName st]) y := fun pre cs y h1 h2 h3 h4 h5 => by
    have := plat_tail h1 h2 h3 h4 ⟨hf, hb⟩ hlt last_fix (last_len S)
    rw [hn, show y = strL y.cps.toList from (strL_of y).symm, h5]; exact this
  have tl : (tailF (lastName st)).cps.toList = inkT ++ fl [enc (lastW st)] := by rw [hn]; exact tail_list _
  refine ⟨S.len, fun x hx => (S.rng x hx).2, fun f b _ _ => find_fact f b, fun o ho => bal_fact S o ho, fun i w h => tidy_fact S turn i w h, fun w hw p hp => ?_, spitz_fact S turn, word_fact S, ?_, ?_, ?_, ?_⟩
  · have := sums_ok S hw p hp; omega
  · exact pt [] [] _ rfl (fun _ h => nomatch h) (by decide) (by decide) tl
  · refine pt [" "] [[]] _ (by decide) (fun c hc => by rw [List.mem_singleton.mp hc]; decide) (by decide) (by decide) ?_
    rw [append_list, tl, show (("-" : Str)).cps.toList = [45] from by decide]
    show 45 :: (inkT ++ _) = red [] ++ fl [inkT, enc (lastW st)]
    rw [red_nil]; rfl
  · refine pt ["unknown"] [unk] _ (by decide) (fun c hc => by rw [List.mem_singleton.mp hc]; decide) (by decide) (by decide) ?_
    rw [append_list, tl, show (("-" : Str)).cps.toList = [45] from by decide]
    show 45 :: (inkT ++ _) = red unk ++ fl [inkT, enc (lastW st)]
    rw [red_of (l := unk) (.hit (pat := unk) (new := []) .nil)]; rfl
  · refine pt [blankF "Unknown"] [unkU] _ (by decide) (fun c hc => by rw [List.mem_singleton.mp hc]; decide) (by decide) (by decide) ?_
    rw [append_list, tl, show (("Unknown-" : Str)).cps.toList = unkU ++ [45] from by decide]
    show unkU ++ [45] ++ (inkT ++ _) = red unkU ++ fl [inkT, enc (lastW st)]
    rw [red_lack (by decide), List.append_assoc]; rfl
end Mine

end

-- part X1
section
open PySem PySem.W PyProof.Rows
set_option Elab.async false
set_option linter.unusedVariables false
set_option maxRecDepth 100000
set_option maxHeartbeats 8000000
set_option pp.deepTerms false
set_option pp.maxSteps 1500
namespace Mine

theorem gm_of {p : Params} {h : Heap} {mean : ExcName → Option Value} {mg mb : Str → Option Value} (KX : (hd.heap_39 p).In h) (T : Top hd.view_39 (looseW hd.view_39 []) mean mg mb h) : GM mg mb where
  len := ⟨mg_none_of KX T.g (by kernel_rfl), (T.builtins "len" (by decide)).trans (by kernel_rfl)⟩
  range := ⟨mg_none_of KX T.g (by kernel_rfl), (T.builtins "range" (by decide)).trans (by kernel_rfl)⟩
  sum := ⟨mg_none_of KX T.g (by kernel_rfl), (T.builtins "sum" (by decide)).trans (by kernel_rfl)⟩
  max := ⟨mg_none_of KX T.g (by kernel_rfl), (T.builtins "max" (by decide)).trans (by kernel_rfl)⟩
  min := ⟨mg_none_of KX T.g (by kernel_rfl), (T.builtins "min" (by decide)).trans (by kernel_rfl)⟩
  sorted := ⟨mg_none_of KX T.g (by kernel_rfl), (T.builtins "sorted" (by decide)).trans (by kernel_rfl)⟩
  filter := ⟨mg_none_of KX T.g (by kernel_rfl), (T.builtins "filter" (by decide)).trans (by kernel_rfl)⟩
  platform := mg_of KX T.g (by kernel_rfl)
  blank := mg_of KX T.g (by kernel_rfl)
  strip := mg_of KX T.g (by kernel_rfl)
  steps := mg_of KX T.g (by kernel_rfl)
  orders := mg_of KX T.g (by kernel_rfl)
  ways := mg_of KX T.g (by kernel_rfl)
  line := mg_of KX T.g (by kernel_rfl)
  fall := mg_of KX T.g (by kernel_rfl)
  tidied := mg_of KX T.g (by kernel_rfl)
  due := mg_of KX T.g (by kernel_rfl)

theorem post_true (as : List WData) : PySem.Challenge.rw_wn0010_01.row.claim.post as (WData.bool true) as = true := by
  kernel_rfl

theorem joinX (LFA : ∀ l : List Int, LawFacts (stepsF l) (l.sum.fmod 16)) : PySem.Challenge.rw_wn0010_01.Holds := by
  refine Mine.hd ?_
  intro w s₀ s₁ mg mb G Y fa o pm cd doc dV kV ho hd' hcd hD hmg hg args vals as hpre hlay hrd hwl hlo
  have KX := kIn_of Y
  refine Ground.open G ?_
  intro T B D TE TW
  obtain ⟨bm, ob, M⟩ := bmod_of_top T
  obtain ⟨c0, P0, he, B0⟩ := based_of_top (name := "_platform") T rfl (mg_of KX T.g (v := .ref 21) (by kernel_rfl)) (KX 21 _ rfl) rfl
  have hfa : fa = 79 := by
    have h := mg_of KX T.g (n := "law") (v := .ref 79) (by kernel_rfl)
    rw [hmg] at h
    injection h with h; injection h
  have hc0 : c0 = 20 := by
    have h : Value.ref 20 = Value.ref c0 := he
    injection h with h; exact h.symm
  have hbm : bm = 4 := by
    have h := mg_of KX T.g (n := "__builtins__") (v := .ref 4) (by kernel_rfl)
    rw [M.name] at h
    injection h with h; injection h
  subst hfa hc0 hbm
  have hP0 : P0 = 16 := by
    obtain ⟨⟨oo, vs', e1, e2, e3, e4⟩, _⟩ := B0.tab
    rw [KX 20 _ rfl] at e1
    cases e1
    cases e3
    injection e4 with e4; injection e4 with e4; exact e4.symm
  subst hP0
  have GMm := gm_of KX T
  have GE₁ : GE (hd.heap_39 w.params) mg mb s₁.heap := ⟨KX, ⟨T.g, T.b⟩, T.nolimit⟩
  clear hmg hd' hcd hD ho B D TE TW
  wrow_args hpre hlay hrd hwl hlo
  rename_i l _ _ _ _ _ _ _ la vs _ hL _ _ _ hI _ hcond _
  refine c_law (N := fun a => a ≠ 16) GMm M (by decide) GE₁ ⟨rfl, by decide, by decide⟩ (fun a ha e => ?_) (fun h => h rfl) ⟨B0.code, B0.tab⟩ (Rep.script_iff.mpr ⟨la, vs, rfl, ?_, hL, hI⟩) (by omega) (LFA l) fun s' ps' keep tb' hmore m => ?_
  · subst e
    rw [B0.tab.2] at ha; cases ha
  · rintro rfl
    obtain ⟨o1, h1, h2, _⟩ := hL
    rw [B0.tab.2] at h1; cases h1; cases h2
  · obtain ⟨more, rfl⟩ := hmore
    refine ⟨.inl ⟨.bool true, .bool true, [], rfl, fun _ => rfl, .bool true, ?_, fun _ => ⟨.nil, fun _ h => nomatch h⟩⟩, ?_, m.os, m.gens.bare (AllBare.of_eq hg)⟩
    · exact post_true _
    · exact OldK.step_table (.refl _) B0.tab B0.tab tb'.tab (fun b o hb e => keep b o hb e) (by decide)
end Mine

end

open PySem PySem.W PyProof.Rows
set_option Elab.async false
theorem PySem.Challenge.cw_wn0010_01_holds : PySem.Challenge.rw_wn0010_01.Holds := by
  exact Mine.joinX fun l => Mine.law_facts (Mine.steps_ok l) (l.sum.fmod 16)
