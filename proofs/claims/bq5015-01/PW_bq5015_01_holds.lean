import PyProof.Rows.All
import Wide.All
import OpenK.AllK
import Wide.FinOn
import PySem.Challenge.RW_bq5015_01
open PySem PySem.W PySem.Calls PyProof.Rows
set_option Elab.async false
set_option linter.unusedVariables false
set_option linter.unusedSimpArgs false
set_option maxRecDepth 100000
namespace Mine
set_option maxHeartbeats 8000000 in
open_top hd for PySem.Challenge.rw_bq5015_01
end Mine
namespace Mine

/-- a list of objects with their places -/
abbrev Led := List (Addr × Obj)
/-- the written part of the heap -/
noncomputable abbrev KF (w : World) : Frag := hd.heap_39 w.params

/-- what every heap of the run holds -/
structure Bas (w : World) (h : Heap) : Prop where
  k : (KF w).In h
  t : ∃ p loose mg mb, TopRead p loose mg mb h
theorem Bas.keeps {w : World} {h h' : Heap} (B : Bas w h) (hk : h.StaysIn h') : Bas w h' :=
  ⟨B.k.keeps hk, let ⟨p, l, a, b, t⟩ := B.t; ⟨p, l, a, b, t.keeps hk⟩⟩
theorem Bas.lim {w : World} {h : Heap} (B : Bas w h) : h.NoLimit := let ⟨_, _, _, _, t⟩ := B.t; t.nolimit

/-- room on both stacks -/
structure Room (A : Around) (k : Nat) : Prop where
  hd : A.handled = none
  dep : A.depth + k < 900
  un : A.units + 16 * k < 9000
theorem Room.deeper {A : Around} {k : Nat} {env : Env} (R : Room A (k + 1)) : Room (A.deeper env) k :=
  ⟨R.hd, by have := R.dep; show A.depth + 1 + k < 900; omega, by have := R.un; show A.units + 3 + 16 * k < 9000; omega⟩
theorem Room.in1 {A : Around} {k : Nat} (R : Room A (k + 1)) : Room A.in1 k :=
  ⟨R.hd, by have := R.dep; show A.depth + k < 900; omega, by have := R.un; show A.units + 1 + 16 * k < 9000; omega⟩
theorem Room.le {A : Around} {k j : Nat} (R : Room A k) (h : j ≤ k) : Room A j :=
  ⟨R.hd, by have := R.dep; omega, by have := R.un; omega⟩
theorem Room.lt {A : Around} {k : Nat} (R : Room A k) : A.depth < recursionLimit := by
  have := R.dep; show A.depth < 1000; omega
theorem Room.line {A : Around} {k : Nat} (R : Room A k) : A.units + 64 < cLine := by
  have := R.un; show A.units + 64 < 9900; omega
theorem Room.line0 {A : Around} {k : Nat} (R : Room A k) : A.units < cLine := by
  have := R.un; show A.units < 9900; omega

section
variable (prog : Program) (w : World) (A : Around) (g : Heap) (L : Addr) (m : Str → Option Value) (n : Led)

/-- from a frame and a ledger the tree comes back with P -/
structure Tr {α : Type} (t : Sem α) (P : α → Led → Prop) : Prop where
  go : ∀ (s : Shared) (Q : α → Shared → Prop) (E : Value → Shared → Prop), Fr g L s.heap m → News g L s.heap n →
    (∀ v h' tk n', P v n' → Fr g L h' m → News g L h' n' → Q v { s with heap := h', toks := tk }) → wpAny (model prog w) A t Q E s
/-- as Tr, the ledger unchanged -/
abbrev Pu {α : Type} (t : Sem α) (P : α → Prop) : Prop := Tr prog w A g L m n t (fun v n' => n' = n ∧ P v)
/-- statements: names may change too -/
structure Sx (t : Sem Flow) (R : Flow → (Str → Option Value) → Led → Prop) : Prop where
  go : ∀ (s : Shared) (Q : Flow → Shared → Prop) (E : Value → Shared → Prop), Fr g L s.heap m → News g L s.heap n →
    (∀ fl h' tk m' n', R fl m' n' → Fr g L h' m' → News g L h' n' → Q fl { s with heap := h', toks := tk }) → wpAny (model prog w) A t Q E s
end
/-- true of every heap that bears the ground and the ledger -/
def Kno (g : Heap) (n : Led) (P : Heap → Prop) : Prop := ∀ h : Heap, g.StaysIn h → (∀ p ∈ n, h.get? p.1 = some p.2) → P h

section
variable {prog : Program} {w : World} {A : Around} {g : Heap} {L : Addr} {m : Str → Option Value} {n : Led} {s : Shared}
theorem Kno.here {P : Heap → Prop} (k : Kno g n P) {h : Heap} (F : Fr g L h m) (N : News g L h n) : P h := k h F.keep fun p hp => (N p hp).1
theorem Kno.of {P : Heap → Prop} (h : P g) (mono : ∀ h h' : Heap, h.StaysIn h' → P h → P h') : Kno g n P := fun h' k _ => mono g h' k h
theorem Kno.mem {a : Addr} {o : Obj} (h : (a, o) ∈ n) : Kno g n (fun h => h.get? a = some o) := fun _ _ k => k (a, o) h
theorem Kno.mono {n' : Led} {P : Heap → Prop} (k : Kno g n P) (hs : ∀ p ∈ n, p ∈ n') : Kno g n' P := fun h a b => k h a fun p hp => b p (hs p hp)
theorem Kno.imp {P P' : Heap → Prop} (k : Kno g n P) (hs : ∀ h, P h → P' h) : Kno g n P' := fun h a b => hs h (k h a b)
theorem Kno.and {P P' : Heap → Prop} (k : Kno g n P) (k' : Kno g n P') : Kno g n (fun h => P h ∧ P' h) := fun h a b => ⟨k h a b, k' h a b⟩
theorem Kno.base {a : Addr} {o : Obj} (h : g.get? a = some o) : Kno g n (fun h => h.get? a = some o) := fun _ k _ => k _ _ h

/-- a tree that a rule of the library serves at every state, without a new object -/
theorem tr_of {α : Type} {t : Sem α} {P : α → Led → Prop}
    (h : ∀ (s : Shared) (Q : α → Shared → Prop) (E : Value → Shared → Prop), Fr g L s.heap m → News g L s.heap n →
      (∀ v tk, P v n → Q v { s with toks := tk }) → wpAny (model prog w) A t Q E s) : Tr prog w A g L m n t P :=
  ⟨fun s Q E F N k => h s Q E F N fun v tk p => k v s.heap tk n p F N⟩
theorem pu_of {α : Type} {t : Sem α} {P : α → Prop}
    (h : ∀ (s : Shared) (Q : α → Shared → Prop) (E : Value → Shared → Prop), Fr g L s.heap m → News g L s.heap n →
      (∀ v tk, P v → Q v { s with toks := tk }) → wpAny (model prog w) A t Q E s) : Pu prog w A g L m n t P :=
  tr_of fun s Q E F N k => h s Q E F N fun v tk p => k v tk ⟨rfl, p⟩
theorem Tr.run {α : Type} {t : Sem α} {P : α → Led → Prop} (T : Tr prog w A g L m n t P) {Q : α → Shared → Prop} {E : Value → Shared → Prop} (F : Fr g L s.heap m) (N : News g L s.heap n)
    (k : ∀ v h' tk n', P v n' → Fr g L h' m → News g L h' n' → Q v { s with heap := h', toks := tk }) : wpAny (model prog w) A t Q E s := T.go s Q E F N k
theorem Pu.run {α : Type} {t : Sem α} {P : α → Prop} (T : Pu prog w A g L m n t P) {Q : α → Shared → Prop} {E : Value → Shared → Prop} (F : Fr g L s.heap m) (N : News g L s.heap n)
    (k : ∀ v h' tk, P v → Fr g L h' m → News g L h' n → Q v { s with heap := h', toks := tk }) : wpAny (model prog w) A t Q E s :=
  T.go s Q E F N fun v h' tk n' p F' N' => by obtain ⟨rfl, p⟩ := p; exact k v h' tk p F' N'
theorem Tr.mono {α : Type} {t : Sem α} {P P' : α → Led → Prop} (T : Tr prog w A g L m n t P) (h : ∀ v n', P v n' → P' v n') : Tr prog w A g L m n t P' :=
  ⟨fun s Q E F N k => T.go s Q E F N fun v h' tk n' p F' N' => k v h' tk n' (h v n' p) F' N'⟩
theorem Pu.mono {α : Type} {t : Sem α} {P P' : α → Prop} (T : Pu prog w A g L m n t P) (h : ∀ v, P v → P' v) : Pu prog w A g L m n t P' :=
  Tr.mono T fun v _ p => ⟨p.1, h v p.2⟩
theorem tr_pure {α : Type} {a : α} {P : α → Led → Prop} (h : P a n) : Tr prog w A g L m n (pure a) P := ⟨fun s _ _ F N k => wpAny_pure (k a s.heap s.toks n h F N)⟩
theorem tr_bind {α β : Type} {t : Sem α} {f : α → Sem β} {P : α → Led → Prop} {P' : β → Led → Prop} (T : Tr prog w A g L m n t P) (h : ∀ a n', P a n' → Tr prog w A g L m n' (f a) P') :
    Tr prog w A g L m n (t >>= f) P' := ⟨fun s Q E F N k => wpAny_bind (T.go s _ E F N fun v h' tk n' p F' N' => (h v n' p).go _ Q E F' N' k)⟩
theorem pu_bind {α β : Type} {t : Sem α} {f : α → Sem β} {P : α → Prop} {P' : β → Led → Prop} (T : Pu prog w A g L m n t P) (h : ∀ a, P a → Tr prog w A g L m n (f a) P') :
    Tr prog w A g L m n (t >>= f) P' := tr_bind T fun a n' p => by obtain ⟨rfl, p⟩ := p; exact h a p

/-- values up to their tokens -/
def IsI (a : Int) (v : Value) : Prop := ∃ t, v = .int a t
def IsS (x : Str) (v : Value) : Prop := ∃ t, v = .str x t
theorem IsI.mk (a : Int) (t : Tok) : IsI a (.int a t) := ⟨t, rfl⟩
theorem IsS.mk (x : Str) (t : Tok) : IsS x (.str x t) := ⟨t, rfl⟩

section
variable {cn : Str} {cs : Scope} {L a : Addr} {ccd : Value} {x : Str} {pos : Pos} {v : Value}
theorem pu_local {P : Value → Prop} (hv : m x = some v) (hP : P v)
    (hk : cs.kind = .function := by rfl) (hl : (envOf cn cs L a ccd).kindOf x = some .local := by rfl) (hd : (x == ("__debug__" : Str)) = false := by rfl) :
    Pu prog w A g L m n (eval (.Name x pos) (envOf cn cs L a ccd)) P :=
  pu_of fun s _ _ F _ k => ld F hv (k v s.toks hP) hk hl hd
theorem pu_K {P : Value → Prop} (B : Bas w g) (e : nsIn (KF w) mainGlobals x = some (some v)) (hP : P v)
    (hk : cs.kind = .function := by rfl) (hx : (envOf cn cs L a ccd).kindOf x = some .globalImplicit := by rfl) (hd : (x == ("__debug__" : Str)) = false := by rfl) :
    Pu prog w A g L m n (eval (.Name x pos) (envOf cn cs L a ccd)) P := by
  obtain ⟨_, _, _, _, T⟩ := B.t
  exact pu_of fun s _ _ F _ k => name_K F B.k T e (k v s.toks hP) hk hx hd
theorem pu_B {P : Value → Prop} (B : Bas w g) (e : nsIn (KF w) mainGlobals x = some none) (hv : bootBuiltins x = some v) (hn : x ≠ "__name__") (hP : P v)
    (hk : cs.kind = .function := by rfl) (hx : (envOf cn cs L a ccd).kindOf x = some .globalImplicit := by rfl) (hd : (x == ("__debug__" : Str)) = false := by rfl) :
    Pu prog w A g L m n (eval (.Name x pos) (envOf cn cs L a ccd)) P := by
  obtain ⟨_, _, _, _, T⟩ := B.t
  exact pu_of fun s _ _ F _ k => name_B F B.k T e hv hn (k v s.toks hP) hk hx hd
end
section
variable {env : Env} {pos : Pos} {k : Nat}
theorem pu_int {i : Int} : Pu prog w A g L m n (eval (.Constant (.int i) k pos) env) (IsI i) := pu_of fun s _ _ _ _ k => wpAny_Constant_int (k _ _ ⟨_, rfl⟩)
theorem pu_str {x : Str} : Pu prog w A g L m n (eval (.Constant (.str x) k pos) env) (IsS x) := pu_of fun s _ _ _ _ k => Constant_str (k _ _ ⟨_, rfl⟩)
theorem pu_bool {b : Bool} : Pu prog w A g L m n (eval (.Constant (.bool b) k pos) env) (· = .bool b) := pu_of fun s _ _ _ _ k => Constant_bool (k _ s.toks rfl)
theorem pu_none : Pu prog w A g L m n (eval (.Constant .none k pos) env) (· = .none) := pu_of fun s _ _ _ _ k => Constant_none (k _ s.toks rfl)
end

section
variable {env : Env} {pos : Pos} {l r : Expr} {a b : Int} {x y : Str}
theorem tr_BinOp {op : Operator} {Pl : Value → Led → Prop} {Pr : Value → Value → Led → Prop} {P : Value → Led → Prop} (hl : Tr prog w A g L m n (eval l env) Pl)
    (hr : ∀ a n1, Pl a n1 → Tr prog w A g L m n1 (eval r env) (Pr a)) (ho : ∀ a b n2, Pr a b n2 → Tr prog w A g L m n2 (binaryOp op a b) P) :
    Tr prog w A g L m n (eval (.BinOp l op r pos) env) P := ⟨fun s Q E F N k =>
  wpAny_BinOp (hl.go s _ E F N fun va h1 tk1 n1 p1 F1 N1 => (hr va n1 p1).go _ _ E F1 N1 fun vb h2 tk2 n2 p2 F2 N2 => (ho va vb n2 p2).go _ Q E F2 N2 k)⟩
theorem pu_BinOp {op : Operator} {Pl Pr : Value → Prop} {P : Value → Led → Prop} (hl : Pu prog w A g L m n (eval l env) Pl)
    (hr : Pu prog w A g L m n (eval r env) Pr) (ho : ∀ a b, Pl a → Pr b → Tr prog w A g L m n (binaryOp op a b) P) :
    Tr prog w A g L m n (eval (.BinOp l op r pos) env) P :=
  tr_BinOp (Pl := fun v n' => n' = n ∧ Pl v) (Pr := fun a v n' => n' = n ∧ Pl a ∧ Pr v) hl (fun a n1 p => by obtain ⟨rfl, p⟩ := p; exact Tr.mono hr fun v n' q => ⟨q.1, p, q.2⟩)
    fun a b n2 p => by obtain ⟨rfl, p, q⟩ := p; exact ho a b p q
theorem pu_add (hl : Pu prog w A g L m n (eval l env) (IsI a)) (hr : Pu prog w A g L m n (eval r env) (IsI b)) : Pu prog w A g L m n (eval (.BinOp l .Add r pos) env) (IsI (a + b)) :=
  pu_BinOp hl hr fun _ _ ⟨_, e⟩ ⟨_, e'⟩ => by subst e e'; exact pu_of fun s _ _ _ _ k => PyProof.Rows.add_int (k _ _ ⟨_, rfl⟩)
theorem pu_sub (hl : Pu prog w A g L m n (eval l env) (IsI a)) (hr : Pu prog w A g L m n (eval r env) (IsI b)) : Pu prog w A g L m n (eval (.BinOp l .Sub r pos) env) (IsI (a - b)) :=
  pu_BinOp hl hr fun _ _ ⟨_, e⟩ ⟨_, e'⟩ => by subst e e'; exact pu_of fun s _ _ _ _ k => PyProof.Rows.sub_int (k _ _ ⟨_, rfl⟩)
theorem pu_mul (hm : IntMulOk a b) (hl : Pu prog w A g L m n (eval l env) (IsI a)) (hr : Pu prog w A g L m n (eval r env) (IsI b)) : Pu prog w A g L m n (eval (.BinOp l .Mult r pos) env) (IsI (a * b)) :=
  pu_BinOp hl hr fun _ _ ⟨_, e⟩ ⟨_, e'⟩ => by subst e e'; exact pu_of fun s _ _ _ _ k => PyProof.Rows.mul_int (k _ _ ⟨_, rfl⟩) hm
theorem pu_mod (hb : b ≠ 0) (hl : Pu prog w A g L m n (eval l env) (IsI a)) (hr : Pu prog w A g L m n (eval r env) (IsI b)) : Pu prog w A g L m n (eval (.BinOp l .Mod r pos) env) (IsI (a.fmod b)) :=
  pu_BinOp hl hr fun _ _ ⟨_, e⟩ ⟨_, e'⟩ => by subst e e'; exact pu_of fun s _ _ _ _ k => PyProof.Rows.mod_int' hb (k _ _ ⟨_, rfl⟩)
theorem pu_div (hb : b ≠ 0) (hb' : b.natAbs < 1073741824) (hl : Pu prog w A g L m n (eval l env) (IsI a)) (hr : Pu prog w A g L m n (eval r env) (IsI b)) : Pu prog w A g L m n (eval (.BinOp l .FloorDiv r pos) env) (IsI (a.fdiv b)) :=
  pu_BinOp hl hr fun _ _ ⟨_, e⟩ ⟨_, e'⟩ => by subst e e'; exact pu_of fun s _ _ _ _ k => PyProof.Rows.floordiv_int hb (k _ _ ⟨_, rfl⟩) (.inl (PyProof.noPylong_small hb'))
theorem pu_cat (hz : x.length + y.length ≤ sizeLine) (hl : Pu prog w A g L m n (eval l env) (IsS x)) (hr : Pu prog w A g L m n (eval r env) (IsS y)) : Pu prog w A g L m n (eval (.BinOp l .Add r pos) env) (IsS (x ++ y)) :=
  pu_BinOp hl hr fun _ _ ⟨_, e⟩ ⟨_, e'⟩ => by subst e e'; exact pu_of fun s _ _ _ _ k => PyProof.Rows.add_str (fun _ _ => k _ _ ⟨_, rfl⟩) hz
end
end
end Mine
namespace Mine
section
variable {prog : Program} {w : World} {A : Around} {g : Heap} {L : Addr} {m : Str → Option Value} {n : Led} {s : Shared}

theorem tr_of_pu {α : Type} {t : Sem α} {P : α → Led → Prop} (h : Pu prog w A g L m n t (fun v => P v n)) : Tr prog w A g L m n t P :=
  Tr.mono h fun v n' p => by obtain ⟨rfl, p⟩ := p; exact p

section sub
variable {env : Env} {value slice : Expr} {pos : Pos}
theorem tr_Subscript {Pv : Value → Led → Prop} {Pi : Value → Value → Led → Prop} {P : Value → Led → Prop} (hv : Tr prog w A g L m n (eval value env) Pv)
    (hi : ∀ o n1, Pv o n1 → Tr prog w A g L m n1 (eval slice env) (Pi o)) (ht : ∀ o i n2, Pi o i n2 → Tr prog w A g L m n2 (subscriptTail value slice o i) P) :
    Tr prog w A g L m n (eval (.Subscript value slice pos) env) P := ⟨fun s Q E F N k =>
  Subscript_ (hv.go s _ E F N fun o h1 tk1 n1 p1 F1 N1 => (hi o n1 p1).go _ _ E F1 N1 fun i h2 tk2 n2 p2 F2 N2 => (ht o i n2 p2).go _ Q E F2 N2 k)⟩
theorem pu_Subscript {Pv Pi : Value → Prop} {P : Value → Led → Prop} (hv : Pu prog w A g L m n (eval value env) Pv)
    (hi : Pu prog w A g L m n (eval slice env) Pi) (ht : ∀ o i, Pv o → Pi i → Tr prog w A g L m n (subscriptTail value slice o i) P) :
    Tr prog w A g L m n (eval (.Subscript value slice pos) env) P :=
  tr_Subscript (Pv := fun v n' => n' = n ∧ Pv v) (Pi := fun a v n' => n' = n ∧ Pv a ∧ Pi v) hv (fun a n1 p => by obtain ⟨rfl, p⟩ := p; exact Tr.mono hi fun v n' q => ⟨q.1, p, q.2⟩)
    fun a b n2 p => by obtain ⟨rfl, p, q⟩ := p; exact ht a b p q

theorem pu_item {l : Addr} {k : Int} {items : Array Value} {v : Value} {P : Value → Prop} (hl : Kno g n (fun h => h.IsList l items)) (h0 : 0 ≤ k) (hf : k < 2 ^ 63) (hx : items[k.toNat]? = some v) (hP : P v)
    (hv : Pu prog w A g L m n (eval value env) (· = .ref l)) (hi : Pu prog w A g L m n (eval slice env) (IsI k))
    (hs : ∀ u, subscripted slice false (.ref l) (.int k u) = operate [.ref l, .int k u] (getItem (.ref l) (.int k u)) := by intro _; with_unfolding_all rfl) :
    Pu prog w A g L m n (eval (.Subscript value slice pos) env) P :=
  pu_Subscript hv hi fun o i e e' => by
    obtain ⟨u, rfl⟩ := e'; subst e
    exact pu_of fun s _ _ F N k => have hL := hl.here F N; tail_any hL.typeIs slot_list_getitem.lookup (wpAny_getItem_list hL h0 hf hx (k _ s.toks hP)) (hs u)
theorem tr_item {l : Addr} {items : Array Value} {P : Value → Led → Prop} {Pi : Value → Led → Prop} (hv : Pu prog w A g L m n (eval value env) (· = .ref l)) (hi : Tr prog w A g L m n (eval slice env) Pi)
    (ht : ∀ i n2, Pi i n2 → ∃ k u v, i = .int k u ∧ Kno g n2 (fun h => h.IsList l items) ∧ 0 ≤ k ∧ k < 2 ^ 63 ∧ items[k.toNat]? = some v ∧ P v n2)
    (hs : ∀ k u, subscripted slice false (.ref l) (.int k u) = operate [.ref l, .int k u] (getItem (.ref l) (.int k u)) := by intro _ _; with_unfolding_all rfl) :
    Tr prog w A g L m n (eval (.Subscript value slice pos) env) P :=
  tr_Subscript (Pv := fun v n' => n' = n ∧ v = .ref l) (Pi := fun a v n' => a = .ref l ∧ Pi v n') hv (fun a n1 p => by obtain ⟨rfl, p⟩ := p; exact Tr.mono hi fun v n' q => ⟨p, q⟩)
    fun o i n2 p => by
      obtain ⟨rfl, p⟩ := p
      obtain ⟨k, u, v, rfl, hl, h0, hf, hx, hP⟩ := ht i n2 p
      exact tr_of fun s _ _ F N kk => have hL := hl.here F N; tail_any hL.typeIs slot_list_getitem.lookup (wpAny_getItem_list hL h0 hf hx (kk _ s.toks hP)) (hs k u)
theorem pu_itemNeg {l : Addr} {k : Int} {items : Array Value} {v : Value} {P : Value → Prop} (hl : Kno g n (fun h => h.IsList l items)) (h0 : k < 0) (h1 : -(items.size : Int) ≤ k) (hf : -(2 ^ 63) ≤ k) (hx : items[(k + items.size).toNat]? = some v) (hP : P v)
    (hv : Pu prog w A g L m n (eval value env) (· = .ref l)) (hi : Pu prog w A g L m n (eval slice env) (IsI k))
    (hs : ∀ u, subscripted slice false (.ref l) (.int k u) = operate [.ref l, .int k u] (getItem (.ref l) (.int k u)) := by intro _; with_unfolding_all rfl) :
    Pu prog w A g L m n (eval (.Subscript value slice pos) env) P :=
  pu_Subscript hv hi fun o i e e' => by
    obtain ⟨u, rfl⟩ := e'; subst e
    exact pu_of fun s _ _ F N k => have hL := hl.here F N; tail_any hL.typeIs slot_list_getitem.lookup (wpAny_getItem_list_neg hL h0 h1 hf hx (k _ s.toks hP)) (hs u)
theorem pu_key {d : Addr} {kvs : List (Str × Value)} {x : Str} {v : Value} {P : Value → Prop} (hd : Kno g n (fun h => h.DictOf (strKind prog w) d kvs)) (hx : valueAt kvs x = some v) (hP : P v)
    (hv : Pu prog w A g L m n (eval value env) (· = .ref d)) (hi : Pu prog w A g L m n (eval slice env) (IsS x))
    (hs : ∀ u, subscripted slice false (.ref d) (.str x u) = operate [.ref d, .str x u] (getItem (.ref d) (.str x u)) := by intro _; with_unfolding_all rfl) :
    Pu prog w A g L m n (eval (.Subscript value slice pos) env) P :=
  pu_Subscript hv hi fun o i e e' => by
    obtain ⟨u, rfl⟩ := e'; subst e
    exact pu_of fun s _ _ F N k => have hD := hd.here F N; tail_any hD.typeIs slot_dict_getitem.lookup (wpAny_getItem_of (strKind_is prog w x u) hD.mapOf hx (k _ _ hP)) (hs u)
end sub

section tests
variable {env : Env} {pos : Pos} {e l r : Expr}
theorem tr_Compare {op : CmpOp} {Pl : Value → Led → Prop} {Pr : Value → Value → Led → Prop} {P : Value → Led → Prop} (hl : Tr prog w A g L m n (eval l env) Pl)
    (hr : ∀ a n1, Pl a n1 → Tr prog w A g L m n1 (eval r env) (Pr a)) (ho : ∀ a b n2, Pr a b n2 → Tr prog w A g L m n2 (compareOp op a b) P)
    (hm : behindInMarks op r = false := by with_unfolding_all rfl) :
    Tr prog w A g L m n (eval (.Compare l [op] [r] pos) env) P := ⟨fun s Q E F N k =>
  wpAny_Compare1 (hl.go s _ E F N fun va h1 tk1 n1 p1 F1 N1 => (hr va n1 p1).go _ _ E F1 N1 fun vb h2 tk2 n2 p2 F2 N2 => (ho va vb n2 p2).go _ Q E F2 N2 k) hm⟩
theorem pu_Compare {op : CmpOp} {Pl Pr : Value → Prop} {P : Value → Prop} (hl : Pu prog w A g L m n (eval l env) Pl)
    (hr : Pu prog w A g L m n (eval r env) Pr) (ho : ∀ a b, Pl a → Pr b → Pu prog w A g L m n (compareOp op a b) P)
    (hm : behindInMarks op r = false := by with_unfolding_all rfl) : Pu prog w A g L m n (eval (.Compare l [op] [r] pos) env) P :=
  tr_Compare (Pl := fun v n' => n' = n ∧ Pl v) (Pr := fun a v n' => n' = n ∧ Pl a ∧ Pr v) hl (fun a n1 p => by obtain ⟨rfl, p⟩ := p; exact Tr.mono hr fun v n' q => ⟨q.1, p, q.2⟩)
    (fun a b n2 p => by obtain ⟨rfl, p, q⟩ := p; exact ho a b p q) hm
theorem tr_test {P : Value → Led → Prop} {PB : Bool → Led → Prop} (h : Tr prog w A g L m n (eval e env) P) (ht : ∀ v n1, P v n1 → Tr prog w A g L m n1 (truthy v) PB)
    (he : isTrue e env (eval e env) = (do let v ← eval e env; standAt e.pos; holding [v] (truthy v)) := by rfl) : Tr prog w A g L m n (isTrue e env (eval e env)) PB :=
  ⟨fun s Q E F N k => isTrue_plain (h.go s _ E F N fun v h1 tk n1 p F1 N1 => (ht v n1 p).go _ Q E F1 N1 k) he⟩
theorem pu_test {P : Value → Prop} {PB : Bool → Prop} (h : Pu prog w A g L m n (eval e env) P) (ht : ∀ v, P v → Pu prog w A g L m n (truthy v) PB)
    (he : isTrue e env (eval e env) = (do let v ← eval e env; standAt e.pos; holding [v] (truthy v)) := by rfl) : Pu prog w A g L m n (isTrue e env (eval e env)) PB :=
  tr_test h (fun v n1 p => by obtain ⟨rfl, p⟩ := p; exact ht v p) he
/-- a comparison as a test: its bool -/
theorem pu_testCmp {op : CmpOp} {Pl Pr : Value → Prop} {b : Bool} {whole : Sem Value} (hl : Pu prog w A g L m n (eval l env) Pl)
    (hr : Pu prog w A g L m n (eval r env) Pr) (ho : ∀ a b', Pl a → Pr b' → Pu prog w A g L m n (compareOp op a b') (· = .bool b))
    (hm : behindInMarks op r = false := by with_unfolding_all rfl) : Pu prog w A g L m n (isTrue (.Compare l [op] [r] pos) env whole) (· = b) :=
  ⟨fun s Q E F N k => wpAny_isTrue_Compare1 (hl.go s _ E F N fun va h1 tk1 n1 p1 F1 N1 => by
    obtain ⟨rfl, p1⟩ := p1
    exact hr.go _ _ E F1 N1 fun vb h2 tk2 n2 p2 F2 N2 => by
      obtain ⟨rfl, p2⟩ := p2
      exact (ho va vb p1 p2).go _ _ E F2 N2 fun c h3 tk3 n3 p3 F3 N3 => by
        obtain ⟨rfl, rfl⟩ := p3
        exact wpAny_truthy_bool (k b h3 tk3 _ ⟨rfl, rfl⟩ F3 N3)) hm⟩
theorem pu_orF {x : Expr} {rest : List Expr} {whole : Sem Value} {b : Bool} (h : Pu prog w A g L m n (isTrue x env (eval x env)) (· = false)) (h' : Pu prog w A g L m n (isTrue (.BoolOp .Or rest pos) env whole) (· = b)) :
    Pu prog w A g L m n (isTrue (.BoolOp .Or (x :: rest) pos) env whole) (· = b) :=
  ⟨fun s Q E F N k => isTrue_or (h.run F N fun c h1 tk p F1 N1 => by subst p; simp only [Bool.false_eq_true, if_false]; exact h'.go _ Q E F1 N1 k)⟩
theorem pu_orT {x : Expr} {rest : List Expr} {whole : Sem Value} (h : Pu prog w A g L m n (isTrue x env (eval x env)) (· = true)) :
    Pu prog w A g L m n (isTrue (.BoolOp .Or (x :: rest) pos) env whole) (· = true) :=
  ⟨fun s Q E F N k => isTrue_or (h.run F N fun c h1 tk p F1 N1 => by subst p; simp only [if_true]; exact k _ _ _ _ ⟨rfl, rfl⟩ F1 N1)⟩
theorem pu_orE {whole : Sem Value} : Pu prog w A g L m n (isTrue (.BoolOp .Or [] pos) env whole) (· = false) := ⟨fun s Q E F N k => isTrue_or_nil (k _ s.heap s.toks _ ⟨rfl, rfl⟩ F N)⟩
theorem pu_andT {x : Expr} {rest : List Expr} {whole : Sem Value} {b : Bool} (h : Pu prog w A g L m n (isTrue x env (eval x env)) (· = true)) (h' : Pu prog w A g L m n (isTrue (.BoolOp .And rest pos) env whole) (· = b)) :
    Pu prog w A g L m n (isTrue (.BoolOp .And (x :: rest) pos) env whole) (· = b) :=
  ⟨fun s Q E F N k => isTrue_and (h.run F N fun c h1 tk p F1 N1 => by subst p; simp only [if_true]; exact h'.go _ Q E F1 N1 k)⟩
theorem pu_andF {x : Expr} {rest : List Expr} {whole : Sem Value} (h : Pu prog w A g L m n (isTrue x env (eval x env)) (· = false)) :
    Pu prog w A g L m n (isTrue (.BoolOp .And (x :: rest) pos) env whole) (· = false) :=
  ⟨fun s Q E F N k => isTrue_and (h.run F N fun c h1 tk p F1 N1 => by subst p; simp only [Bool.false_eq_true, if_false]; exact k _ _ _ _ ⟨rfl, rfl⟩ F1 N1)⟩
theorem pu_andE {whole : Sem Value} : Pu prog w A g L m n (isTrue (.BoolOp .And [] pos) env whole) (· = true) := ⟨fun s Q E F N k => isTrue_and_nil (k _ s.heap s.toks _ ⟨rfl, rfl⟩ F N)⟩
theorem tr_not {x : Expr} {whole : Sem Value} {P : Bool → Led → Prop} (h : Tr prog w A g L m n (isTrue x env (eval x env)) (fun b => P (!b))) : Tr prog w A g L m n (isTrue (.UnaryOp .Not x pos) env whole) P :=
  ⟨fun s Q E F N k => isTrue_not (h.go s _ E F N fun v h1 tk n1 p F1 N1 => k _ h1 tk n1 p F1 N1)⟩
theorem pu_IfT {test body orelse : Expr} {P : Value → Led → Prop} (h : Pu prog w A g L m n (isTrue test env (eval test env)) (· = true)) (hb : Tr prog w A g L m n (eval body env) P) :
    Tr prog w A g L m n (eval (.IfExp test body orelse pos) env) P :=
  ⟨fun s Q E F N k => IfExp_ (h.run F N fun c h1 tk p F1 N1 => by subst p; simp only [if_true]; exact hb.go _ Q E F1 N1 k)⟩
theorem pu_IfF {test body orelse : Expr} {P : Value → Led → Prop} (h : Pu prog w A g L m n (isTrue test env (eval test env)) (· = false)) (hb : Tr prog w A g L m n (eval orelse env) P) :
    Tr prog w A g L m n (eval (.IfExp test body orelse pos) env) P :=
  ⟨fun s Q E F N k => IfExp_ (h.run F N fun c h1 tk p F1 N1 => by subst p; simp only [Bool.false_eq_true, if_false]; exact hb.go _ Q E F1 N1 k)⟩
/-- a == b and c == d as a value, both true -/
theorem pu_BoolAnd2 {e₁ e₂ : Expr} (h1 : Pu prog w A g L m n (eval e₁ env) (· = .bool true)) (h2 : Pu prog w A g L m n (eval e₂ env) (· = .bool true)) :
    Pu prog w A g L m n (eval (.BoolOp .And [e₁, e₂] pos) env) (· = .bool true) :=
  ⟨fun s Q E F N k => BoolOp_and (h1.run F N fun c h1' tk p F1 N1 => by subst p; refine wpAny_truthy_bool ?_; simp only [if_true]; exact BoolOp_one (h2.go _ Q E F1 N1 k))⟩
theorem pu_tbool {b : Bool} : Pu prog w A g L m n (truthy (.bool b)) (· = b) := pu_of fun s _ _ _ _ k => wpAny_truthy_bool (k _ s.toks rfl)
theorem pu_tnone : Pu prog w A g L m n (truthy .none) (· = false) := pu_of fun s _ _ _ _ k => PyProof.Rows.truthy_none (k _ s.toks rfl)
end tests

section stmts
variable {env : Env} {pos pos' : Pos} {e : Expr} {rest body orelse : List Stmt} {R : Flow → (Str → Option Value) → Led → Prop}
theorem sx_nil (h : R .next m n) : Sx prog w A g L m n (execs [] env) R := ⟨fun s Q E F N k => wpAny_execs_nil (k _ s.heap s.toks _ _ h F N)⟩
theorem sx_cons {st : Stmt} (h : Sx prog w A g L m n (exec st env) (fun fl m' n' => match fl with | .next => Sx prog w A g L m' n' (execs rest env) R | fl => R fl m' n')) :
    Sx prog w A g L m n (execs (st :: rest) env) R := ⟨fun s Q E F N k => wpAny_execs_cons (h.go s _ E F N fun fl h1 tk m1 n1 p F1 N1 => by
  cases fl with
  | next => exact p.go _ Q E F1 N1 k
  | ret v => exact k _ _ _ _ _ p F1 N1
  | brk => exact k _ _ _ _ _ p F1 N1
  | cont => exact k _ _ _ _ _ p F1 N1)⟩
theorem sx_ret {P : Value → Led → Prop} (h : Tr prog w A g L m n (eval e env) P) (hR : ∀ v n1, P v n1 → R (.ret v) m n1) : Sx prog w A g L m n (execs (.Return (some e) pos :: rest) env) R :=
  sx_cons ⟨fun s Q E F N k => wpAny_Return_some (h.go s _ E F N fun v h1 tk n1 p F1 N1 => k _ h1 tk m n1 (hR v n1 p) F1 N1)⟩
theorem sx_retPu {P : Value → Prop} (h : Pu prog w A g L m n (eval e env) P) (hR : ∀ v, P v → R (.ret v) m n) : Sx prog w A g L m n (execs (.Return (some e) pos :: rest) env) R :=
  sx_ret h fun v n1 p => by obtain ⟨rfl, p⟩ := p; exact hR v p
theorem sx_if {PB : Bool → Led → Prop} {test : Expr} (h : Tr prog w A g L m n (isTrue test env (eval test env)) PB)
    (hT : ∀ n1, PB true n1 → Sx prog w A g L m n1 (execs body env) (fun fl m' n' => match fl with | .next => Sx prog w A g L m' n' (execs rest env) R | fl => R fl m' n'))
    (hF : ∀ n1, PB false n1 → Sx prog w A g L m n1 (execs orelse env) (fun fl m' n' => match fl with | .next => Sx prog w A g L m' n' (execs rest env) R | fl => R fl m' n')) :
    Sx prog w A g L m n (execs (.If test body orelse pos :: rest) env) R :=
  sx_cons ⟨fun s Q E F N k => wpAny_If (h.go s _ E F N fun b h1 tk n1 p F1 N1 => by
    cases b with
    | true => simp only [if_true]; exact (hT n1 p).go _ Q E F1 N1 k
    | false => simp only [Bool.false_eq_true, if_false]; exact (hF n1 p).go _ Q E F1 N1 k)⟩
theorem sx_ifT {test : Expr} (h : Pu prog w A g L m n (isTrue test env (eval test env)) (· = true))
    (hT : Sx prog w A g L m n (execs body env) (fun fl m' n' => match fl with | .next => Sx prog w A g L m' n' (execs rest env) R | fl => R fl m' n')) :
    Sx prog w A g L m n (execs (.If test body orelse pos :: rest) env) R :=
  sx_if h (fun n1 p => by obtain ⟨rfl, p⟩ := p; exact hT) fun n1 p => by obtain ⟨rfl, p⟩ := p; cases p
theorem sx_ifF {test : Expr} (h : Pu prog w A g L m n (isTrue test env (eval test env)) (· = false))
    (hF : Sx prog w A g L m n (execs orelse env) (fun fl m' n' => match fl with | .next => Sx prog w A g L m' n' (execs rest env) R | fl => R fl m' n')) :
    Sx prog w A g L m n (execs (.If test body orelse pos :: rest) env) R :=
  sx_if h (fun n1 p => by obtain ⟨rfl, p⟩ := p; cases p) fun n1 p => by obtain ⟨rfl, p⟩ := p; exact hF
/-- an if without else whose test is false -/
theorem sx_skip {test : Expr} (h : Pu prog w A g L m n (isTrue test env (eval test env)) (· = false)) (hF : Sx prog w A g L m n (execs rest env) R) :
    Sx prog w A g L m n (execs (.If test body [] pos :: rest) env) R := sx_ifF h (sx_nil hF)
theorem sx_expr {P : Value → Led → Prop} (h : Tr prog w A g L m n (eval e env) P) (hR : ∀ v n1, P v n1 → Sx prog w A g L m n1 (execs rest env) R)
    (hi : interactive env = false := by rfl) (hs : swapsWith e none pos.line env = pure false := by rfl) : Sx prog w A g L m n (execs (.Expr e pos :: rest) env) R :=
  sx_cons ⟨fun s Q E F N k => wpAny_Expr_any (h.go s _ E F N fun v h1 tk n1 p F1 N1 => k _ h1 tk m n1 (hR v n1 p) F1 N1) hi hs⟩
theorem sx_attr {P : Value → Led → Prop} {P2 : Value → Value → Led → Prop} {o : Expr} {attr : Str} (h : Tr prog w A g L m n (eval e env) P) (ho : ∀ v n1, P v n1 → Tr prog w A g L m n1 (eval o env) (P2 v))
    (hs : ∀ v ov n2, P2 v ov n2 → Tr prog w A g L m n2 (setAttr ov attr v) (fun _ n3 => Sx prog w A g L m n3 (execs rest env) R))
    (hw : swapsWith e (some (.Attribute o attr pos')) pos.line env = pure false := by rfl) : Sx prog w A g L m n (execs (.Assign [.Attribute o attr pos'] e pos :: rest) env) R :=
  sx_cons ⟨fun s Q E F N k => plainObj_wpAny_Assign_Attribute (h.go s _ E F N fun v h1 tk n1 p F1 N1 => (ho v n1 p).go _ _ E F1 N1 fun ov h2 tk2 n2 p2 F2 N2 =>
    (hs v ov n2 p2).go _ _ E F2 N2 fun _ h3 tk3 n3 p3 F3 N3 => k _ h3 tk3 m n3 p3 F3 N3) hw⟩
theorem sx_setitem {P : Value → Led → Prop} {P2 P3 : Value → Value → Led → Prop} {P4 : Value → Value → Value → Led → Prop} {o i : Expr} (h : Tr prog w A g L m n (eval e env) P) (ho : ∀ v n1, P v n1 → Tr prog w A g L m n1 (eval o env) (P2 v))
    (hi : ∀ v ov n2, P2 v ov n2 → Tr prog w A g L m n2 (eval i env) (P4 v ov))
    (hs : ∀ v ov iv n3, P4 v ov iv n3 → Tr prog w A g L m n3 (setItem ov iv v) (fun _ n4 => Sx prog w A g L m n4 (execs rest env) R))
    (hw : swapsWith e (some (.Subscript o i pos')) pos.line env = pure false := by rfl) : Sx prog w A g L m n (execs (.Assign [.Subscript o i pos'] e pos :: rest) env) R :=
  sx_cons ⟨fun s Q E F N k => wpAny_Assign_Subscript (h.go s _ E F N fun v h1 tk n1 p F1 N1 => (ho v n1 p).go _ _ E F1 N1 fun ov h2 tk2 n2 p2 F2 N2 =>
    (hi v ov n2 p2).go _ _ E F2 N2 fun iv h3 tk3 n3 p3 F3 N3 => (hs v ov iv n3 p3).go _ _ E F3 N3 fun _ h4 tk4 n4 p4 F4 N4 => k _ h4 tk4 m n4 p4 F4 N4) hw⟩
/-- the pure form: value, object, key known -/
theorem sx_put {Pe Pk : Value → Prop} {o i : Expr} {ov : Value} (h : Pu prog w A g L m n (eval e env) Pe) (ho : Pu prog w A g L m n (eval o env) (· = ov))
    (hi : Pu prog w A g L m n (eval i env) Pk)
    (hs : ∀ v iv, Pe v → Pk iv → Tr prog w A g L m n (setItem ov iv v) (fun _ n4 => Sx prog w A g L m n4 (execs rest env) R))
    (hw : swapsWith e (some (.Subscript o i pos')) pos.line env = pure false := by rfl) : Sx prog w A g L m n (execs (.Assign [.Subscript o i pos'] e pos :: rest) env) R :=
  sx_cons ⟨fun s Q E F N k => wpAny_Assign_Subscript (h.run F N fun v h1 tk p F1 N1 => ho.run F1 N1 fun ov' h2 tk2 p2 F2 N2 =>
    hi.run F2 N2 fun iv h3 tk3 p3 F3 N3 => by subst p2; exact (hs v iv p p3).go _ _ E F3 N3 fun _ h4 tk4 n4 p4 F4 N4 => k _ h4 tk4 m n4 p4 F4 N4) hw⟩
theorem sx_augkey {Pk Pold Pe Pnew : Value → Prop} {op : Operator} {o i : Expr} {ov : Value} (ho : Pu prog w A g L m n (eval o env) (· = ov)) (hi : Pu prog w A g L m n (eval i env) Pk)
    (hg : ∀ iv, Pk iv → Pu prog w A g L m n (getItem ov iv) Pold) (he : Pu prog w A g L m n (eval e env) Pe) (hop : ∀ a b, Pold a → Pe b → Pu prog w A g L m n (inplaceOp op a b) Pnew)
    (hs : ∀ v iv, Pnew v → Pk iv → Tr prog w A g L m n (setItem ov iv v) (fun _ n4 => Sx prog w A g L m n4 (execs rest env) R))
    (hst : ∀ ov iv new, augStore i ov iv new = (do holding [new, ov, iv] (setItem ov iv new); release [new, ov, iv] []; pure .next) := by intros; rfl) :
    Sx prog w A g L m n (execs (.AugAssign (.Subscript o i pos') op e pos :: rest) env) R :=
  sx_cons ⟨fun s Q E F N k => wpAny_AugAssign_SubscriptAny (ho.run F N fun ov' h1 tk p F1 N1 => hi.run F1 N1 fun iv h2 tk2 p2 F2 N2 => by
    subst p
    exact (hg iv p2).run F2 N2 fun old h3 tk3 p3 F3 N3 => he.run F3 N3 fun v h4 tk4 p4 F4 N4 => (hop old v p3 p4).run F4 N4 fun new h5 tk5 p5 F5 N5 =>
      (hs new iv p5 p2).go _ _ E F5 N5 fun _ h6 tk6 n6 p6 F6 N6 => k _ h6 tk6 m n6 p6 F6 N6) hst⟩
end stmts

section names
variable {cn : Str} {cs : Scope} {L a : Addr} {ccd : Value} {x : Str} {pos pos' : Pos} {e : Expr} {rest : List Stmt} {R : Flow → (Str → Option Value) → Led → Prop}
/-- the names behind a store -/
abbrev upd (m : Str → Option Value) (x : Str) (v : Value) : Str → Option Value := fun y => if y = x then some v else m y
theorem sx_let {P : Value → Led → Prop} (h : Tr prog w A g L m n (eval e (envOf cn cs L a ccd)) P)
    (hR : ∀ v n1, P v n1 → Sx prog w A g L (upd m x v) n1 (execs rest (envOf cn cs L a ccd)) R)
    (hw : swapsWith e (some (.Name x pos')) pos.line (envOf cn cs L a ccd) = pure false := by rfl)
    (hk : cs.kind = .function := by rfl) (hl : (envOf cn cs L a ccd).kindOf x = some .local := by rfl) :
    Sx prog w A g L m n (execs (.Assign [.Name x pos'] e pos :: rest) (envOf cn cs L a ccd)) R :=
  sx_cons ⟨fun s Q E F N k => wpAny_Assign_Name (h.go s _ E F N fun v h1 tk n1 p F1 N1 => stN F1 N1 (fun h2 F2 N2 => k _ h2 _ _ n1 (hR v n1 p) F2 N2) hk hl) hw⟩
theorem sx_letPu {P : Value → Prop} (h : Pu prog w A g L m n (eval e (envOf cn cs L a ccd)) P)
    (hR : ∀ v, P v → Sx prog w A g L (upd m x v) n (execs rest (envOf cn cs L a ccd)) R)
    (hw : swapsWith e (some (.Name x pos')) pos.line (envOf cn cs L a ccd) = pure false := by rfl)
    (hk : cs.kind = .function := by rfl) (hl : (envOf cn cs L a ccd).kindOf x = some .local := by rfl) :
    Sx prog w A g L m n (execs (.Assign [.Name x pos'] e pos :: rest) (envOf cn cs L a ccd)) R :=
  sx_let h (fun v n1 p => by obtain ⟨rfl, p⟩ := p; exact hR v p) hw hk hl
theorem sx_augname {i j : Int} {t : Tok} (hv : m x = some (.int i t)) (he : Pu prog w A g L m n (eval e (envOf cn cs L a ccd)) (IsI j))
    (hR : ∀ v, IsI (i + j) v → Sx prog w A g L (upd m x v) n (execs rest (envOf cn cs L a ccd)) R)
    (hk : cs.kind = .function := by rfl) (hl : (envOf cn cs L a ccd).kindOf x = some .local := by rfl) :
    Sx prog w A g L m n (execs (.AugAssign (.Name x pos') .Add e pos :: rest) (envOf cn cs L a ccd)) R :=
  sx_cons ⟨fun s Q E F N k => wpAny_AugAssign_Name (ldn F hv (he.run F N fun v h1 tk p F1 N1 => by
    obtain ⟨u, rfl⟩ := p
    exact PyProof.Rows.iadd_int (stN F1 N1 (fun h2 F2 N2 => k _ h2 _ _ n (hR _ ⟨_, rfl⟩) F2 N2) hk hl)) hk hl)⟩
end names
end
end Mine
namespace Mine

/-- the ledger with a new object at a -/
def put (n : Led) (a : Addr) (o : Obj) : Led := (a, o) :: n.filter (fun p => decide (p.1 ≠ a))
theorem put_off (n : Led) (a : Addr) : ∀ p ∈ n.filter (fun p => decide (p.1 ≠ a)), p.1 ≠ a := fun p hp => by simpa using (List.mem_filter.mp hp).2
theorem mem_put {n : Led} {a b : Addr} {o ob : Obj} (h : (b, ob) ∈ n) (hne : b ≠ a) : (b, ob) ∈ put n a o := .tail _ (List.mem_filter.mpr ⟨h, by simpa using hne⟩)
theorem put_self (n : Led) (a : Addr) (o : Obj) : (a, o) ∈ put n a o := .head _
theorem news_put {g h : Heap} {L a : Addr} {n : Led} {o : Obj} (N : News g L h n) (hm : (a, o) ∈ n) : News g L h (put n a o) := fun p hp => by
  rcases List.mem_cons.mp hp with rfl | hp
  · exact N _ hm
  · exact N p (List.mem_filter.mp hp).1
/-- the ledger without the places of muts -/
def drop (n : Led) (muts : List Addr) : Led := n.filter (fun p => decide (p.1 ∉ muts))
theorem mem_drop {n : Led} {muts : List Addr} {p : Addr × Obj} (h : p ∈ n) (hne : p.1 ∉ muts) : p ∈ drop n muts := List.mem_filter.mpr ⟨h, by simpa using hne⟩
theorem of_drop {n : Led} {muts : List Addr} {p : Addr × Obj} (h : p ∈ drop n muts) : p ∈ n ∧ p.1 ∉ muts := by
  obtain ⟨a, b⟩ := List.mem_filter.mp h; exact ⟨a, by simpa using b⟩
theorem drop_nil (n : Led) : drop n [] = n := by unfold drop; simp

section
variable (prog : Program) (w : World)
/-- what a call does: n the objects that it may change, Pre what it reads of the rest, RP what it hands on: the value, the objects changed or new -/
structure FSpec (f : Value) (args : List Value) (k : Nat) (n : Led) (Pre : Heap → Prop) (RP : Value → Led → Prop) : Prop where
  go : ∀ (A : Around) (s : Shared) (R : Result → Shared → Prop), Room A k → (∀ p ∈ n, s.heap.get? p.1 = some p.2) → Bas w (hideAll s.heap (n.map (·.1))) → Pre (hideAll s.heap (n.map (·.1))) →
    (∀ v h' tk n', RP v n' → (∀ b o, s.heap.get? b = some o → b ∉ n.map (·.1) → h'.get? b = some o) → (∀ p ∈ n', h'.get? p.1 = some p.2 ∧ (p.1 ∈ n.map (·.1) ∨ s.heap.get? p.1 = none)) → R (.ok (.ret v)) { s with heap := h', toks := tk }) →
    codeAny (model prog w) A (.call f ⟨args, []⟩) R s
end
def retv : Flow → Value
  | .ret v => v
  | _ => .none

section
variable {prog : Program} {w : World} {A : Around} {g : Heap} {L : Addr} {m : Str → Option Value} {n : Led} {s : Shared}

theorem fspec_of_body {f : Addr} {k : Nat} {args : List Value} {n : Led} {Pre : Heap → Prop} {RP : Value → Led → Prop} {name qual : Str} {params : Arguments} {body : List Stmt} {scope : Scope} {dV kV doc pm cdv ct oc : Value} {an od : Option Addr} {osl : Array (Option Value)} {binds : List (Str × Value)}
    (ho : (hd.heap_39 w.params).lookup f = some ⟨oc, od, .func (fnOf name qual params body scope dV kV doc pm an cdv ct), osl⟩) (hcd : codeIn (hd.heap_39 w.params) cdv qual = true)
    (hbind : ∀ s : Shared, (KF w).In s.heap → BindsTo s (fnOf name qual params body scope dV kV doc pm an cdv ct) ⟨args, []⟩ binds) (hloc : ∀ y ∈ binds, scope.names.lookup y.1 = some .local)
    (hb : ∀ A g L, Room A k → Bas w g → Pre g → (∀ p ∈ n, g.get? p.1 = none) → Sx prog w A g L (fun y => binds.reverse.lookup y) n (execs body (envOf qual scope L f cdv)) (fun fl _ n' => RP (retv fl) n'))
    (hco : scope.isCoroutine = false := by rfl) (hgen : scope.isGenerator = false := by rfl) (hk : scope.kind = .function := by rfl) (hcell : ∀ x ∈ scope.names, x.2 ≠ .cell := by decide) :
    FSpec prog w (.ref f) args (k + 1) n Pre RP := by
  refine ⟨fun A s R hR hn hB hP kont => ?_⟩
  have st : (hideAll s.heap (n.map (·.1))).StaysIn s.heap := fun b o e => of_hideAll _ e
  have hB' := hB.keeps st
  refine codeAny_call_def (fd := fnOf name qual params body scope dV kV doc pm an cdv ct) (body := body) (binds := binds) hR.lt (hB'.k _ _ ho) rfl hB'.lim (codeRec_of hB'.k hcd) rfl (hbind s hB'.k) hcell hloc (fun h₁ hns hk₁ => ?_) hco hgen hk
  refine (hb (A.deeper (envOf qual scope s.heap.objs.size f cdv)) (hideAll s.heap (n.map (·.1))) s.heap.objs.size hR.deeper hB hP (fun p hp => hideAll_none _ (List.mem_map_of_mem hp))).go _ _ _
    ⟨hns, fun b o e => hk₁ b o (of_hideAll _ e), Nat.le_of_eq (hideAll_size _ _)⟩
    (fun p hp => ⟨hk₁ _ _ (hn p hp), Nat.ne_of_lt (Heap.lt_size (hn p hp)), hideAll_none _ (List.mem_map_of_mem hp)⟩) ?_
  intro fl h' tk m' n' p F' N'
  have key : R (.ok (.ret (retv fl))) { s with heap := h', toks := tk } := by
    refine kont (retv fl) h' tk n' p (fun b o e hb => F'.keep b o (hideAll_get _ e hb)) fun q hq => ⟨(N' q hq).1, ?_⟩
    by_cases hm : q.1 ∈ n.map (·.1)
    · exact .inl hm
    · refine .inr ?_
      cases hx : s.heap.get? q.1 with
      | none => rfl
      | some o => have := (N' q hq).2.2; rw [hideAll_get _ hx hm] at this; cases this
  cases fl <;> exact key

theorem call_core {f : Value} {args : List Value} {k : Nat} {n0 : Led} {Pre : Heap → Prop} {RP : Value → Led → Prop} (S : FSpec prog w f args k n0 Pre RP) (hR : Room A k) (hB : Bas w g) (hsub : ∀ p ∈ n0, p ∈ n)
    (hpre : Kno g (drop n (n0.map (·.1))) Pre) :
    ∀ (R : Result → Shared → Prop), Fr g L s.heap m → News g L s.heap n → (∀ v h' tk N', (∃ n', RP v n' ∧ N' = n' ++ drop n (n0.map (·.1)) ∧ ∀ p ∈ n', p.1 ∈ n0.map (·.1) ∨ p.1 ∉ n.map (·.1)) → Fr g L h' m → News g L h' N' → R (.ok (.ret v)) { s with heap := h', toks := tk }) →
    codeAny (model prog w) A (.call f ⟨args, []⟩) R s := by
  intro R F N kont
  have off : ∀ b o, g.get? b = some o → b ∉ n0.map (·.1) := fun b o e hm => by
    obtain ⟨p, hp, rfl⟩ := List.mem_map.mp hm
    rw [(N p (hsub p hp)).2.2] at e; cases e
  have st : g.StaysIn (hideAll s.heap (n0.map (·.1))) := fun b o e => hideAll_get _ (F.keep b o e) (off b o e)
  refine S.go A s R hR (fun p hp => (N p (hsub p hp)).1) (hB.keeps st) (hpre _ st fun p hp => hideAll_get _ (N p (of_drop hp).1).1 (of_drop hp).2) ?_
  intro v h' tk n' hRP hkeep hn'
  obtain ⟨oL, es, ep, hL, hr⟩ := F.ns
  have nL : L ∉ n0.map (·.1) := fun hm => by
    obtain ⟨p, hp, e⟩ := List.mem_map.mp hm
    exact (N p (hsub p hp)).2.1 e
  refine kont v h' tk (n' ++ drop n (n0.map (·.1))) ⟨n', hRP, rfl, fun p hp => ?_⟩ ⟨⟨oL, es, ep, hkeep _ _ hL nL, hr⟩, fun b o e => hkeep b o (F.keep b o e) (off b o e), F.above⟩ ?_
  · rcases (hn' p hp).2 with h | h
    · exact .inl h
    · refine .inr fun hm => ?_
      obtain ⟨q, hq, e⟩ := List.mem_map.mp hm
      have := (N q hq).1
      rw [e, h] at this; cases this
  · intro p hp
    rcases List.mem_append.mp hp with hp | hp
    · refine ⟨(hn' p hp).1, ?_, ?_⟩
      · rcases (hn' p hp).2 with h | h
        · exact fun e => nL (e ▸ h)
        · intro e; rw [e, hL] at h; cases h
      · rcases (hn' p hp).2 with h | h
        · obtain ⟨q, hq, e⟩ := List.mem_map.mp h
          rw [← e]; exact (N q (hsub q hq)).2.2
        · cases hx : g.get? p.1 with
          | none => rfl
          | some o => rw [F.keep _ _ hx] at h; cases h
    · obtain ⟨a, b⟩ := of_drop hp
      exact ⟨hkeep _ _ (N p a).1 b, (N p a).2⟩
theorem tr_call {f : Value} {args : List Value} {k : Nat} {n0 : Led} {Pre : Heap → Prop} {RP : Value → Led → Prop} (S : FSpec prog w f args k n0 Pre RP) (hR : Room A k) (hB : Bas w g) (hsub : ∀ p ∈ n0, p ∈ n)
    (hpre : Kno g (drop n (n0.map (·.1))) Pre) :
    Tr prog w A g L m n (call f args) (fun v N' => ∃ n', RP v n' ∧ N' = n' ++ drop n (n0.map (·.1)) ∧ ∀ p ∈ n', p.1 ∈ n0.map (·.1) ∨ p.1 ∉ n.map (·.1)) :=
  ⟨fun s Q E F N kont => wpAny_call (call_core S hR hB hsub hpre _ F N fun v h' tk N' p F' N'' => kont v h' tk N' p F' N'')⟩
theorem pu_call {f : Value} {args : List Value} {k : Nat} {Pre : Heap → Prop} {RP : Value → Led → Prop} {P : Value → Prop} (S : FSpec prog w f args k [] Pre RP) (hR : Room A k) (hB : Bas w g) (hpre : Kno g n Pre) (hP : ∀ v n', RP v n' → P v) :
    Pu prog w A g L m n (call f args) P := by
  have T := tr_call (L := L) (m := m) (n := n) S hR hB (fun p hp => nomatch hp) (by rw [List.map_nil, drop_nil]; exact hpre)
  refine ⟨fun s Q E F N kont => ?_⟩
  refine T.go s Q E F N fun v h' tk n' p F' N' => ?_
  obtain ⟨n1, hRP, rfl, _⟩ := p
  rw [List.map_nil, drop_nil] at N'
  exact kont v h' tk n ⟨rfl, hP v n1 hRP⟩ F' fun q hq => N' q (List.mem_append_right _ hq)

section args
variable {env : Env} {pos : Pos} {e : Expr} {rest : List Expr}
theorem pu_args0 : Pu prog w A g L m n (spliced (backTo pos (starEach [] env))) (· = []) := pu_of fun s _ _ _ _ k => spliced_none (k [] s.toks rfl)
theorem pu_args {P : Value → Prop} {Ps : List Value → Prop} (h : Pu prog w A g L m n (eval e env) P) (h' : Pu prog w A g L m n (spliced (backTo pos (starEach rest env))) Ps)
    (he : starEach (e :: rest) env = (false, eval e env) :: starEach rest env := by rfl) :
    Pu prog w A g L m n (spliced (backTo pos (starEach (e :: rest) env))) (fun vs => ∃ v r, vs = v :: r ∧ P v ∧ Ps r) :=
  ⟨fun s Q E F N k => spliced_more (h.run F N fun v h1 tk p F1 N1 => h'.run F1 N1 fun vs h2 tk2 p2 F2 N2 => k _ h2 tk2 _ ⟨rfl, v, vs, rfl, p, p2⟩ F2 N2) he⟩
theorem tr_args {P : Value → Led → Prop} {Ps : List Value → Led → Prop} (h : Tr prog w A g L m n (eval e env) P)
    (h' : ∀ v n1, P v n1 → Tr prog w A g L m n1 (spliced (backTo pos (starEach rest env))) (fun vs => Ps (v :: vs)))
    (he : starEach (e :: rest) env = (false, eval e env) :: starEach rest env := by rfl) :
    Tr prog w A g L m n (spliced (backTo pos (starEach (e :: rest) env))) Ps :=
  ⟨fun s Q E F N k => spliced_more (h.go s _ E F N fun v h1 tk n1 p F1 N1 => (h' v n1 p).go _ _ E F1 N1 fun vs h2 tk2 n2 p2 F2 N2 => k (v :: vs) h2 tk2 n2 p2 F2 N2) he⟩
variable {f : Value} {first : List Value} {Pargs : List Value → Led → Prop} {P : Value → Led → Prop}
theorem tr_callWith (hB : Bas w g) (hk : keepIn (KF w) f = true) (h : Tr prog w A g L m n (spliced (backTo pos (starEach (e :: rest) env))) Pargs) (hc : ∀ vs n1, Pargs vs n1 → Tr prog w A g L m n1 (call f (first ++ vs)) P)
    (he : starEach (e :: rest) env = (false, eval e env) :: starEach rest env := by rfl) (hplain : (backTo pos (starEach rest env)).any (·.1) = false := by rfl) :
    Tr prog w A g L m n (callWith pos f first (backTo pos (starEach (e :: rest) env)) []) P :=
  ⟨fun s Q E F N k => callWith_K hB.k hk (h.go s _ E F N fun vs h1 tk n1 p F1 N1 => ⟨hB.k.keeps F1.keep, (hc vs n1 p).go _ Q E F1 N1 k⟩) he hplain⟩
theorem tr_callWith0 (hB : Bas w g) (hk : keepIn (KF w) f = true) (hc : Tr prog w A g L m n (call f (first ++ [])) P) : Tr prog w A g L m n (callWith pos f first (backTo pos (starEach [] env)) []) P :=
  ⟨fun s Q E F N k => callWith_K0 (hB.k.keeps F.keep) hk (hc.go s Q E F N k)⟩
theorem keeps_B {M : Model} {f : Value} (hf : ∀ a, f ≠ .ref a) (h : Heap) (_ : True) : ∃ k, (k = Keeper.frame ∨ k = Keeper.machine ∨ k = Keeper.boundFrame) ∧ Looks M h (keeperOf f) k := by
  refine ⟨.machine, .inr (.inl rfl), ?_⟩
  cases f with
  | ref a => exact absurd rfl (hf a)
  | _ => exact Looks.now
theorem tr_callWithB (hf : ∀ a, f ≠ .ref a) (h : Tr prog w A g L m n (spliced (backTo pos (starEach (e :: rest) env))) Pargs) (hc : ∀ vs n1, Pargs vs n1 → Tr prog w A g L m n1 (call f (first ++ vs)) P)
    (he : starEach (e :: rest) env = (false, eval e env) :: starEach rest env := by rfl) (hplain : (backTo pos (starEach rest env)).any (·.1) = false := by rfl) :
    Tr prog w A g L m n (callWith pos f first (backTo pos (starEach (e :: rest) env)) []) P := by
  refine ⟨fun s Q E F N k => ?_⟩
  have h' : Tr prog w A g L m n (spliced ((false, eval e env) :: backTo pos (starEach rest env))) Pargs := by rw [he] at h; exact h
  rw [he]
  exact callWith_of (P := fun _ => True) (by show ((false || (backTo pos (starEach rest env)).any (·.1)) || false) = false; rw [hplain]; rfl) (keeps_B hf)
    (evalArgs_plain (h'.go s _ E F N fun vs h1 tk n1 p F1 N1 => ⟨trivial, (hc vs n1 p).go _ Q E F1 N1 k⟩))
theorem tr_callWithB0 (hf : ∀ a, f ≠ .ref a) (hc : Tr prog w A g L m n (call f (first ++ [])) P) : Tr prog w A g L m n (callWith pos f first (backTo pos (starEach [] env)) []) P :=
  ⟨fun s Q E F N k => callWith_of (P := fun _ => True) rfl (keeps_B hf) (evalArgs_nil3 ⟨trivial, hc.go s Q E F N k⟩)⟩
/-- f(args) by a name -/
theorem tr_Call {func : Expr} {args : List Expr} (hf : Pu prog w A g L m n (eval func env) (· = f)) (h : Tr prog w A g L m n (callWith pos f [] (backTo pos (starEach args env)) []) P)
    (he : eval (.Call func args [] pos) env = (do callWith pos (← eval func env) [] (backTo pos (starEach args env)) (backToKw pos (keywordEach [] env))) := by rfl) : Tr prog w A g L m n (eval (.Call func args [] pos) env) P :=
  ⟨fun s Q E F N k => Call_ (hf.run F N fun v h1 tk p F1 N1 => by subst p; exact h.go _ Q E F1 N1 k) he⟩
/-- o.name(args) -/
theorem tr_Method {o : Expr} {Po : Value → Prop} {name : Str} {apos : Pos} {args : List Expr} {pl : Sem Bool} (hpo : Pu prog w A g L m n (eval o env) Po)
    (h : ∀ ov, Po ov → ∃ f first, Pu prog w A g L m n (getMethod ov name pl) (· = (f, first)) ∧ Tr prog w A g L m n (callWith pos f first (backTo pos (starEach args env)) []) P)
    (he : eval (.Call (.Attribute o name apos) args [] pos) env = (do
      let ov ← eval o env
      standAt apos.atName
      let (f, first) ← holding [ov] (getMethod ov name pl)
      callWith pos f first (backTo pos (starEach args env)) (backToKw pos (keywordEach [] env))) := by rfl) :
    Tr prog w A g L m n (eval (.Call (.Attribute o name apos) args [] pos) env) P :=
  ⟨fun s Q E F N k => MethodCall_ (hpo.run F N fun v h1 tk p F1 N1 => by
    obtain ⟨f, first, hg, hc⟩ := h v p
    exact hg.run F1 N1 fun fx h2 tk2 p2 F2 N2 => by subst p2; exact hc.go _ Q E F2 N2 k) he⟩
end args
end
end Mine
namespace Mine

/-- what a BlockState's own dict holds -/
structure BS where
  src : Str
  T : Addr
  cur : Int
  lim : Int
  par : Option Addr
  S : Addr
  env : Addr
def optRef : Option Addr → Value
  | none => .none
  | some a => .ref a
abbrev bsEs (h1 h2 h3 h4 h5 h6 h7 h8 : Int) (a1 a2 a3 a4 a5 a6 a7 a8 b1 b3 b4 : Tok) (f : BS) : List DictEntry :=
  [⟨h1, .str (Str.ofString "src") a1, .str f.src b1⟩, ⟨h2, .str (Str.ofString "tokens") a2, .ref f.T⟩, ⟨h3, .str (Str.ofString "cursor") a3, .int f.cur b3⟩, ⟨h4, .str (Str.ofString "cursor_max") a4, .int f.lim b4⟩,
    ⟨h5, .str (Str.ofString "list_tight") a5, .bool true⟩, ⟨h6, .str (Str.ofString "parent") a6, optRef f.par⟩, ⟨h7, .str (Str.ofString "lazy_line_starts") a7, .ref f.S⟩, ⟨h8, .str (Str.ofString "env") a8, .ref f.env⟩]
def IsBS (f : BS) (o : Obj) : Prop := ∃ (h1 h2 h3 h4 h5 h6 h7 h8 : Int) (a1 a2 a3 a4 a5 a6 a7 a8 b1 b3 b4 : Tok) (k : Nat), o = dictOf (bsEs h1 h2 h3 h4 h5 h6 h7 h8 a1 a2 a3 a4 a5 a6 a7 a8 b1 b3 b4 f) k
def BSAt (h : Heap) (x : Addr) (f : BS) : Prop := ∃ dx o, h.get? x = some (instObj 117 dx) ∧ h.get? dx = some o ∧ IsBS f o
theorem BSAt.keeps {h h' : Heap} {x : Addr} {f : BS} (k : h.StaysIn h') (b : BSAt h x f) : BSAt h' x f := let ⟨dx, o, a, c, d⟩ := b; ⟨dx, o, k _ _ a, k _ _ c, d⟩

section facts
variable (w : World)
theorem c_getattribute : findIn (KF w) (.ref 117) "__getattribute__" = some (some (.builtin "object.__getattribute__")) := by kernel_rfl
theorem c_getattr : findIn (KF w) (.ref 117) "__getattr__" = some none := by kernel_rfl
theorem c_setattr : findIn (KF w) (.ref 117) "__setattr__" = some (some (.builtin "object.__setattr__")) := by kernel_rfl
theorem c_dict : hasDictIn (KF w) 117 = true := by kernel_rfl
theorem c_plain : plainOver (KF w) 117 = true := by kernel_rfl
theorem c_src : findIn (KF w) (.ref 117) (Str.ofString "src") = some none := by kernel_rfl
theorem c_tokens : findIn (KF w) (.ref 117) (Str.ofString "tokens") = some none := by kernel_rfl
theorem c_cursor : findIn (KF w) (.ref 117) (Str.ofString "cursor") = some none := by kernel_rfl
theorem c_limit : findIn (KF w) (.ref 117) (Str.ofString "cursor_max") = some none := by kernel_rfl
theorem c_tight : findIn (KF w) (.ref 117) (Str.ofString "list_tight") = some none := by kernel_rfl
theorem c_parent : findIn (KF w) (.ref 117) (Str.ofString "parent") = some none := by kernel_rfl
theorem c_lazy : findIn (KF w) (.ref 117) (Str.ofString "lazy_line_starts") = some none := by kernel_rfl
theorem c_env : findIn (KF w) (.ref 117) (Str.ofString "env") = some none := by kernel_rfl
theorem m_find_line_end : findIn (KF w) (.ref 117) (Str.ofString "find_line_end") = some (some (.ref 51)) := by kernel_rfl
theorem fn_find_line_end : isFn (KF w) (.ref 51) = true := by kernel_rfl
theorem kp_find_line_end : keepIn (KF w) (.ref 51) = true := by kernel_rfl
theorem m_find_line_end_at : findIn (KF w) (.ref 117) (Str.ofString "find_line_end_at") = some (some (.ref 58)) := by kernel_rfl
theorem fn_find_line_end_at : isFn (KF w) (.ref 58) = true := by kernel_rfl
theorem kp_find_line_end_at : keepIn (KF w) (.ref 58) = true := by kernel_rfl
theorem m_get_text : findIn (KF w) (.ref 117) (Str.ofString "get_text") = some (some (.ref 65)) := by kernel_rfl
theorem fn_get_text : isFn (KF w) (.ref 65) = true := by kernel_rfl
theorem kp_get_text : keepIn (KF w) (.ref 65) = true := by kernel_rfl
theorem m_get_line : findIn (KF w) (.ref 117) (Str.ofString "get_line") = some (some (.ref 72)) := by kernel_rfl
theorem fn_get_line : isFn (KF w) (.ref 72) = true := by kernel_rfl
theorem kp_get_line : keepIn (KF w) (.ref 72) = true := by kernel_rfl
theorem m_last_token : findIn (KF w) (.ref 117) (Str.ofString "last_token") = some (some (.ref 79)) := by kernel_rfl
theorem fn_last_token : isFn (KF w) (.ref 79) = true := by kernel_rfl
theorem kp_last_token : keepIn (KF w) (.ref 79) = true := by kernel_rfl
theorem m_prepend_token : findIn (KF w) (.ref 117) (Str.ofString "prepend_token") = some (some (.ref 86)) := by kernel_rfl
theorem fn_prepend_token : isFn (KF w) (.ref 86) = true := by kernel_rfl
theorem kp_prepend_token : keepIn (KF w) (.ref 86) = true := by kernel_rfl
theorem m_append_token : findIn (KF w) (.ref 117) (Str.ofString "append_token") = some (some (.ref 93)) := by kernel_rfl
theorem fn_append_token : isFn (KF w) (.ref 93) = true := by kernel_rfl
theorem kp_append_token : keepIn (KF w) (.ref 93) = true := by kernel_rfl
theorem m_add_paragraph : findIn (KF w) (.ref 117) (Str.ofString "add_paragraph") = some (some (.ref 100)) := by kernel_rfl
theorem fn_add_paragraph : isFn (KF w) (.ref 100) = true := by kernel_rfl
theorem kp_add_paragraph : keepIn (KF w) (.ref 100) = true := by kernel_rfl
theorem m_append_paragraph : findIn (KF w) (.ref 117) (Str.ofString "append_paragraph") = some (some (.ref 107)) := by kernel_rfl
theorem fn_append_paragraph : isFn (KF w) (.ref 107) = true := by kernel_rfl
theorem kp_append_paragraph : keepIn (KF w) (.ref 107) = true := by kernel_rfl
theorem m_depth : findIn (KF w) (.ref 117) (Str.ofString "depth") = some (some (.ref 114)) := by kernel_rfl
theorem fn_depth : isFn (KF w) (.ref 114) = true := by kernel_rfl
theorem kp_depth : keepIn (KF w) (.ref 114) = true := by kernel_rfl
theorem m_process : findIn (KF w) (.ref 117) (Str.ofString "process") = some (some (.ref 44)) := by kernel_rfl
theorem fn_process : isFn (KF w) (.ref 44) = true := by kernel_rfl
theorem kp_process : keepIn (KF w) (.ref 44) = true := by kernel_rfl
theorem m_child_state : findIn (KF w) (.ref 117) (Str.ofString "child_state") = some (some (.ref 37)) := by kernel_rfl
theorem fn_child_state : isFn (KF w) (.ref 37) = true := by kernel_rfl
theorem kp_child_state : keepIn (KF w) (.ref 37) = true := by kernel_rfl
theorem m_init : findIn (KF w) (.ref 117) (Str.ofString "__init__") = some (some (.ref 29)) := by kernel_rfl
theorem fn_init : isFn (KF w) (.ref 29) = true := by kernel_rfl
theorem kp_init : keepIn (KF w) (.ref 29) = true := by kernel_rfl
theorem g_law_draw : nsIn (KF w) mainGlobals (Str.ofString "_law_draw") = some (some (.ref 130)) := by kernel_rfl
theorem k_law_draw : keepIn (KF w) (.ref 130) = true := by kernel_rfl
theorem g_law_pick : nsIn (KF w) mainGlobals (Str.ofString "_law_pick") = some (some (.ref 137)) := by kernel_rfl
theorem k_law_pick : keepIn (KF w) (.ref 137) = true := by kernel_rfl
theorem g_law_end : nsIn (KF w) mainGlobals (Str.ofString "_law_end") = some (some (.ref 144)) := by kernel_rfl
theorem k_law_end : keepIn (KF w) (.ref 144) = true := by kernel_rfl
theorem g_law_made : nsIn (KF w) mainGlobals (Str.ofString "_law_made") = some (some (.ref 151)) := by kernel_rfl
theorem k_law_made : keepIn (KF w) (.ref 151) = true := by kernel_rfl
theorem g_law_depth : nsIn (KF w) mainGlobals (Str.ofString "_law_depth") = some (some (.ref 158)) := by kernel_rfl
theorem k_law_depth : keepIn (KF w) (.ref 158) = true := by kernel_rfl
theorem g_law_last : nsIn (KF w) mainGlobals (Str.ofString "_law_last") = some (some (.ref 165)) := by kernel_rfl
theorem k_law_last : keepIn (KF w) (.ref 165) = true := by kernel_rfl
theorem g_law_same : nsIn (KF w) mainGlobals (Str.ofString "_law_same") = some (some (.ref 172)) := by kernel_rfl
theorem k_law_same : keepIn (KF w) (.ref 172) = true := by kernel_rfl
theorem g_law_deed : nsIn (KF w) mainGlobals (Str.ofString "_law_deed") = some (some (.ref 179)) := by kernel_rfl
theorem k_law_deed : keepIn (KF w) (.ref 179) = true := by kernel_rfl
theorem glaw : nsIn (KF w) mainGlobals (Str.ofString "law") = some (some (.ref 186)) := by kernel_rfl
theorem klaw : keepIn (KF w) (.ref 186) = true := by kernel_rfl
theorem gBlockState : nsIn (KF w) mainGlobals (Str.ofString "BlockState") = some (some (.ref 117)) := by kernel_rfl
theorem g_law_texts : nsIn (KF w) mainGlobals (Str.ofString "_law_texts") = some (some (.ref 122)) := by kernel_rfl
theorem g_law_pieces : nsIn (KF w) mainGlobals (Str.ofString "_law_pieces") = some (some (.ref 123)) := by kernel_rfl
theorem kBlockState : keepIn (KF w) (.ref 117) = true := by kernel_rfl
theorem b_len : nsIn (KF w) mainGlobals (Str.ofString "len") = some none := by kernel_rfl
theorem b_range : nsIn (KF w) mainGlobals (Str.ofString "range") = some none := by kernel_rfl
theorem b_set : nsIn (KF w) mainGlobals (Str.ofString "set") = some none := by kernel_rfl
theorem b_sorted : nsIn (KF w) mainGlobals (Str.ofString "sorted") = some none := by kernel_rfl
theorem b_str : nsIn (KF w) mainGlobals (Str.ofString "str") = some none := by kernel_rfl
theorem b_dict : nsIn (KF w) mainGlobals (Str.ofString "dict") = some none := by kernel_rfl
end facts

section
variable {prog : Program} {w : World} {A : Around} {g : Heap} {L : Addr} {m : Str → Option Value} {n : Led} {s : Shared} {env : Env} {pos : Pos} {o : Expr} {x : Addr} {f : BS}
theorem tr_Attr {Po : Value → Prop} {P : Value → Led → Prop} {name : Str} (ho : Pu prog w A g L m n (eval o env) Po) (h : ∀ v, Po v → Tr prog w A g L m n (getAttr v name true) P)
    (he : eval (.Attribute o name pos) env = (do
      let o' ← eval o env
      standAt pos.atName
      let r ← holding [o'] (getAttr o' name true)
      letTemporaryGo o o' r
      pure r) := by with_unfolding_all rfl) : Tr prog w A g L m n (eval (.Attribute o name pos) env) P :=
  ⟨fun s Q E F N k => Attribute_any_ (ho.run F N fun v h1 tk p F1 N1 => (h v p).go _ Q E F1 N1 k) he⟩
theorem pu_getBS {P : Value → Prop} {name : Str} (B : Bas w g) (hx : Kno g n (fun h => BSAt h x f)) (ha : findIn (KF w) (.ref 117) name = some none)
    (hl : ∀ h1 h2 h3 h4 h5 h6 h7 h8 a1 a2 a3 a4 a5 a6 a7 a8 b1 b3 b4, ∃ v, getL name (bsEs h1 h2 h3 h4 h5 h6 h7 h8 a1 a2 a3 a4 a5 a6 a7 a8 b1 b3 b4 f) = some (some v) ∧ handedIn v = true ∧ P v) :
    Pu prog w A g L m n (getAttr (.ref x) name true) P := by
  refine pu_of fun s Q E F N k => ?_
  obtain ⟨dx, o, hx1, hx2, h1, h2, h3, h4, h5, h6, h7, h8, a1, a2, a3, a4, a5, a6, a7, a8, b1, b3, b4, kk, rfl⟩ := hx.here F N
  obtain ⟨v, hv, hh, hP⟩ := hl h1 h2 h3 h4 h5 h6 h7 h8 a1 a2 a3 a4 a5 a6 a7 a8 b1 b3 b4
  have I : InstAt s.heap x (instObj 117 dx) 117 (some (dictOf (bsEs h1 h2 h3 h4 h5 h6 h7 h8 a1 a2 a3 a4 a5 a6 a7 a8 b1 b3 b4 f) kk)) := ⟨hx1, rfl, rfl, hx2⟩
  exact get_value (B.k.keeps F.keep) I (c_getattribute w) (findObj_own (c_dict w) ha rfl hv) hh (k v _ hP)
theorem handed_optRef (a : Option Addr) : handedIn (optRef a) = true := by cases a <;> rfl
section
variable (B : Bas w g) (hx : Kno g n (fun h => BSAt h x f)) (ho : Pu prog w A g L m n (eval o env) (· = .ref x))
include B hx ho
theorem pu_src (he : eval (.Attribute o (Str.ofString "src") pos) env = (do let o' ← eval o env; standAt pos.atName; let r ← holding [o'] (getAttr o' (Str.ofString "src") true); letTemporaryGo o o' r; pure r) := by with_unfolding_all rfl) :
    Pu prog w A g L m n (eval (.Attribute o (Str.ofString "src") pos) env) (IsS f.src) := tr_Attr ho (fun v e => by subst e; exact pu_getBS B hx (c_src w) fun _ _ _ _ _ _ _ _ _ _ _ _ _ _ _ _ b1 _ _ => ⟨_, rfl, rfl, ⟨b1, rfl⟩⟩) he
theorem pu_tokens (he : eval (.Attribute o (Str.ofString "tokens") pos) env = (do let o' ← eval o env; standAt pos.atName; let r ← holding [o'] (getAttr o' (Str.ofString "tokens") true); letTemporaryGo o o' r; pure r) := by with_unfolding_all rfl) :
    Pu prog w A g L m n (eval (.Attribute o (Str.ofString "tokens") pos) env) (· = .ref f.T) := tr_Attr ho (fun v e => by subst e; exact pu_getBS B hx (c_tokens w) fun _ _ _ _ _ _ _ _ _ _ _ _ _ _ _ _ _ _ _ => ⟨_, rfl, rfl, rfl⟩) he
theorem pu_cursor (he : eval (.Attribute o (Str.ofString "cursor") pos) env = (do let o' ← eval o env; standAt pos.atName; let r ← holding [o'] (getAttr o' (Str.ofString "cursor") true); letTemporaryGo o o' r; pure r) := by with_unfolding_all rfl) :
    Pu prog w A g L m n (eval (.Attribute o (Str.ofString "cursor") pos) env) (IsI f.cur) := tr_Attr ho (fun v e => by subst e; exact pu_getBS B hx (c_cursor w) fun _ _ _ _ _ _ _ _ _ _ _ _ _ _ _ _ _ b3 _ => ⟨_, rfl, rfl, ⟨b3, rfl⟩⟩) he
theorem pu_limit (he : eval (.Attribute o (Str.ofString "cursor_max") pos) env = (do let o' ← eval o env; standAt pos.atName; let r ← holding [o'] (getAttr o' (Str.ofString "cursor_max") true); letTemporaryGo o o' r; pure r) := by with_unfolding_all rfl) :
    Pu prog w A g L m n (eval (.Attribute o (Str.ofString "cursor_max") pos) env) (IsI f.lim) := tr_Attr ho (fun v e => by subst e; exact pu_getBS B hx (c_limit w) fun _ _ _ _ _ _ _ _ _ _ _ _ _ _ _ _ _ _ b4 => ⟨_, rfl, rfl, ⟨b4, rfl⟩⟩) he
theorem pu_tight (he : eval (.Attribute o (Str.ofString "list_tight") pos) env = (do let o' ← eval o env; standAt pos.atName; let r ← holding [o'] (getAttr o' (Str.ofString "list_tight") true); letTemporaryGo o o' r; pure r) := by with_unfolding_all rfl) :
    Pu prog w A g L m n (eval (.Attribute o (Str.ofString "list_tight") pos) env) (· = .bool true) := tr_Attr ho (fun v e => by subst e; exact pu_getBS B hx (c_tight w) fun _ _ _ _ _ _ _ _ _ _ _ _ _ _ _ _ _ _ _ => ⟨_, rfl, rfl, rfl⟩) he
theorem pu_parent (he : eval (.Attribute o (Str.ofString "parent") pos) env = (do let o' ← eval o env; standAt pos.atName; let r ← holding [o'] (getAttr o' (Str.ofString "parent") true); letTemporaryGo o o' r; pure r) := by with_unfolding_all rfl) :
    Pu prog w A g L m n (eval (.Attribute o (Str.ofString "parent") pos) env) (· = optRef f.par) := tr_Attr ho (fun v e => by subst e; exact pu_getBS B hx (c_parent w) fun _ _ _ _ _ _ _ _ _ _ _ _ _ _ _ _ _ _ _ => ⟨_, rfl, handed_optRef _, rfl⟩) he
theorem pu_lazy (he : eval (.Attribute o (Str.ofString "lazy_line_starts") pos) env = (do let o' ← eval o env; standAt pos.atName; let r ← holding [o'] (getAttr o' (Str.ofString "lazy_line_starts") true); letTemporaryGo o o' r; pure r) := by with_unfolding_all rfl) :
    Pu prog w A g L m n (eval (.Attribute o (Str.ofString "lazy_line_starts") pos) env) (· = .ref f.S) := tr_Attr ho (fun v e => by subst e; exact pu_getBS B hx (c_lazy w) fun _ _ _ _ _ _ _ _ _ _ _ _ _ _ _ _ _ _ _ => ⟨_, rfl, rfl, rfl⟩) he
theorem pu_env (he : eval (.Attribute o (Str.ofString "env") pos) env = (do let o' ← eval o env; standAt pos.atName; let r ← holding [o'] (getAttr o' (Str.ofString "env") true); letTemporaryGo o o' r; pure r) := by with_unfolding_all rfl) :
    Pu prog w A g L m n (eval (.Attribute o (Str.ofString "env") pos) env) (· = .ref f.env) := tr_Attr ho (fun v e => by subst e; exact pu_getBS B hx (c_env w) fun _ _ _ _ _ _ _ _ _ _ _ _ _ _ _ _ _ _ _ => ⟨_, rfl, rfl, rfl⟩) he
end
/-- a method of a BlockState -/
theorem pu_meth {name : Str} {fa : Addr} {pl : Sem Bool} (B : Bas w g) (hx : Kno g n (fun h => BSAt h x f)) (hf : findIn (KF w) (.ref 117) name = some (some (.ref fa))) (hfn : isFn (KF w) (.ref fa) = true)
    (hl : ∀ h1 h2 h3 h4 h5 h6 h7 h8 a1 a2 a3 a4 a5 a6 a7 a8 b1 b3 b4, getL name (bsEs h1 h2 h3 h4 h5 h6 h7 h8 a1 a2 a3 a4 a5 a6 a7 a8 b1 b3 b4 f) = some none) :
    Pu prog w A g L m n (getMethod (.ref x) name pl) (· = (.ref fa, [.ref x])) := by
  refine pu_of fun s Q E F N k => ?_
  obtain ⟨dx, o, hx1, hx2, h1, h2, h3, h4, h5, h6, h7, h8, a1, a2, a3, a4, a5, a6, a7, a8, b1, b3, b4, kk, rfl⟩ := hx.here F N
  have I : InstAt s.heap x (instObj 117 dx) 117 (some (dictOf (bsEs h1 h2 h3 h4 h5 h6 h7 h8 a1 a2 a3 a4 a5 a6 a7 a8 b1 b3 b4 f) kk)) := ⟨hx1, rfl, rfl, hx2⟩
  have hg : plainGet (KF w) 117 name = true := by unfold plainGet; rw [c_getattribute, c_getattr]; rfl
  exact method_inst F B.k I hg hf hfn (hl h1 h2 h3 h4 h5 h6 h7 h8 a1 a2 a3 a4 a5 a6 a7 a8 b1 b3 b4) (k _ s.toks rfl)
end
end Mine
namespace Mine
section
variable {prog : Program} {w : World} {A : Around} {g : Heap} {L : Addr} {m : Str → Option Value} {n : Led} {s : Shared} {env : Env} {pos apos : Pos} {o e e1 e2 e3 : Expr} {x y : Str} {i j : Int}

theorem pu_getB {v : Value} {T : String} {name : Str} {id : String} {pl : Sem Bool} (hT : Kno g n (fun h => ∀ s : Shared, s.heap = h → s.TypeIs v T)) (pa : PlainAttrs T)
    (slot : Slot T name id) (hty : typeOf (.builtin id) = pure (.type "method_descriptor")) (hd : ∀ a, v = .ref a → Kno g n (fun h => ∃ o, h.get? a = some o ∧ o.dict = none)) :
    Pu prog w A g L m n (getMethod v name pl) (· = (.builtin id, [v])) :=
  pu_of fun s _ _ F N k => getMethod_builtin (hT.here F N s rfl) pa slot hty (fun a e => (hd a e).here F N) (k _ s.toks rfl)
theorem pu_getStr {x : Str} {t : Tok} {name : Str} {id : String} {pl : Sem Bool} (slot : Slot "str" name id) (hty : typeOf (.builtin id) = pure (.type "method_descriptor")) :
    Pu prog w A g L m n (getMethod (.str x t) name pl) (· = (.builtin id, [.str x t])) :=
  pu_getB (fun h _ _ s _ => typeIs_str s x t) PySem.F.plainAttrs_str slot hty (fun a e => by cases e)
theorem pu_find {pl : Sem Bool} (ho : Pu prog w A g L m n (eval o env) (IsS x)) (h1 : Pu prog w A g L m n (eval e1 env) (IsS y)) (h2 : Pu prog w A g L m n (eval e2 env) (IsI i))
    (he : eval (.Call (.Attribute o (Str.ofString "find") apos) [e1, e2] [] pos) env = (do
      let ov ← eval o env
      standAt apos.atName
      let (f, first) ← holding [ov] (getMethod ov (Str.ofString "find") pl)
      callWith pos f first (backTo pos (starEach [e1, e2] env)) (backToKw pos (keywordEach [] env))) := by rfl)
    (hs1 : starEach [e1, e2] env = (false, eval e1 env) :: starEach [e2] env := by rfl) (hs2 : starEach [e2] env = (false, eval e2 env) :: starEach [] env := by rfl)
    (hp1 : (backTo pos (starEach [e2] env)).any (·.1) = false := by rfl) :
    Pu prog w A g L m n (eval (.Call (.Attribute o (Str.ofString "find") apos) [e1, e2] [] pos) env) (IsI (Txt.find3 x y i)) :=
  tr_Method (pl := pl) ho (fun ov e => by
    obtain ⟨t, rfl⟩ := e
    refine ⟨.builtin "str.find", [.str x t], pu_getStr PySem.F.slot_str_find PySem.F.type_str_find, ?_⟩
    have ha0 := pu_args0 (prog := prog) (w := w) (A := A) (g := g) (L := L) (m := m) (n := n) (env := env) (pos := pos)
    have ha1 := pu_args h2 ha0 hs2
    have ha := pu_args h1 ha1 hs1
    have hnr : ∀ a, Value.builtin "str.find" ≠ .ref a := fun a e => by cases e
    refine tr_callWithB hnr ha ?_ hs1 hp1
    intro vs n1 p
    obtain ⟨rfl, v, r, rfl, ⟨u, rfl⟩, v2, r2, rfl, ⟨u2, rfl⟩, rfl⟩ := p
    exact pu_of fun s _ _ _ _ k => SC.find3 (k _ _ ⟨_, rfl⟩)) he


section lens
variable {cn : Str} {cs : Scope} {L a : Addr} {ccd : Value} {p : Pos}
theorem pu_lenStr (B : Bas w g) (hz : (x.length : Int) < 2 ^ 60) (h : Pu prog w A g L m n (eval e (envOf cn cs L a ccd)) (IsS x))
    (hk : cs.kind = .function := by rfl) (hx : (envOf cn cs L a ccd).kindOf (Str.ofString "len") = some .globalImplicit := by rfl)
    (he : eval (.Call (.Name (Str.ofString "len") p) [e] [] pos) (envOf cn cs L a ccd) = (do callWith pos (← eval (.Name (Str.ofString "len") p) (envOf cn cs L a ccd)) [] (backTo pos (starEach [e] (envOf cn cs L a ccd))) (backToKw pos (keywordEach [] (envOf cn cs L a ccd)))) := by rfl)
    (hs : starEach [e] (envOf cn cs L a ccd) = (false, eval e (envOf cn cs L a ccd)) :: starEach [] (envOf cn cs L a ccd) := by rfl) :
    Pu prog w A g L m n (eval (.Call (.Name (Str.ofString "len") p) [e] [] pos) (envOf cn cs L a ccd)) (IsI x.length) :=
  tr_Call (pu_B B (b_len w) boot_len (by decide) rfl hk hx rfl)
    (tr_callWithB (fun a e => by cases e) (pu_args h pu_args0 hs) (fun vs n1 q => by
      obtain ⟨rfl, v, r, rfl, ⟨u, rfl⟩, rfl⟩ := q
      exact pu_of fun s _ _ _ _ k => PyProof.Rows.len_str (by omega) (k _ _ ⟨_, rfl⟩)) hs rfl) he
theorem pu_lenList {l : Addr} {items : Array Value} (B : Bas w g) (hl : Kno g n (fun h => h.IsList l items)) (hz : (items.size : Int) < 2 ^ 60) (h : Pu prog w A g L m n (eval e (envOf cn cs L a ccd)) (· = .ref l))
    (hk : cs.kind = .function := by rfl) (hx : (envOf cn cs L a ccd).kindOf (Str.ofString "len") = some .globalImplicit := by rfl)
    (he : eval (.Call (.Name (Str.ofString "len") p) [e] [] pos) (envOf cn cs L a ccd) = (do callWith pos (← eval (.Name (Str.ofString "len") p) (envOf cn cs L a ccd)) [] (backTo pos (starEach [e] (envOf cn cs L a ccd))) (backToKw pos (keywordEach [] (envOf cn cs L a ccd)))) := by rfl)
    (hs : starEach [e] (envOf cn cs L a ccd) = (false, eval e (envOf cn cs L a ccd)) :: starEach [] (envOf cn cs L a ccd) := by rfl) :
    Pu prog w A g L m n (eval (.Call (.Name (Str.ofString "len") p) [e] [] pos) (envOf cn cs L a ccd)) (IsI items.size) :=
  tr_Call (pu_B B (b_len w) boot_len (by decide) rfl hk hx rfl)
    (tr_callWithB (fun a e => by cases e) (pu_args h pu_args0 hs) (fun vs n1 q => by
      obtain ⟨rfl, v, r, rfl, rfl, rfl⟩ := q
      exact pu_of fun s _ _ F N k => Calls.call_len_list (hl.here F N) (by omega) (k _ _ ⟨_, rfl⟩)) hs rfl) he
end lens


section leaves
variable {a b : Value}
theorem c_eqI (ha : IsI i a) (hb : IsI j b) : Pu prog w A g L m n (compareOp .Eq a b) (· = .bool (i == j)) := by
  obtain ⟨t, rfl⟩ := ha; obtain ⟨u, rfl⟩ := hb; exact pu_of fun s _ _ _ _ k => PyProof.Rows.eq_int (k _ s.toks rfl)
theorem c_neI (ha : IsI i a) (hb : IsI j b) : Pu prog w A g L m n (compareOp .NotEq a b) (· = .bool (i != j)) := by
  obtain ⟨t, rfl⟩ := ha; obtain ⟨u, rfl⟩ := hb; exact pu_of fun s _ _ _ _ k => PyProof.Rows.ne_int (k _ s.toks rfl)
theorem c_ltI (ha : IsI i a) (hb : IsI j b) : Pu prog w A g L m n (compareOp .Lt a b) (· = .bool (decide (i < j))) := by
  obtain ⟨t, rfl⟩ := ha; obtain ⟨u, rfl⟩ := hb; exact pu_of fun s _ _ _ _ k => PyProof.Rows.lt_int (k _ s.toks rfl)
theorem c_geI (ha : IsI i a) (hb : IsI j b) : Pu prog w A g L m n (compareOp .GtE a b) (· = .bool (decide (j ≤ i))) := by
  obtain ⟨t, rfl⟩ := ha; obtain ⟨u, rfl⟩ := hb; exact pu_of fun s _ _ _ _ k => PyProof.Rows.ge_int (k _ s.toks rfl)
theorem c_eqS (ha : IsS x a) (hb : IsS y b) : Pu prog w A g L m n (compareOp .Eq a b) (· = .bool (x == y)) := by
  obtain ⟨t, rfl⟩ := ha; obtain ⟨u, rfl⟩ := hb; exact pu_of fun s _ _ _ _ k => PyProof.Rows.eq_str (k _ s.toks rfl)
theorem c_neS (ha : IsS x a) (hb : IsS y b) : Pu prog w A g L m n (compareOp .NotEq a b) (· = .bool (x != y)) := by
  obtain ⟨t, rfl⟩ := ha; obtain ⟨u, rfl⟩ := hb; exact pu_of fun s _ _ _ _ k => PyProof.Rows.ne_str (k _ s.toks rfl)
theorem c_isNone (hb : b = .none) : Pu prog w A g L m n (compareOp .Is a b) (· = .bool (a == .none)) := by
  subst hb; exact pu_of fun s _ _ _ _ k => is_none_gen (k _ s.toks rfl)
theorem c_notNone (hb : b = .none) : Pu prog w A g L m n (compareOp .IsNot a b) (· = .bool (!(a == .none))) := by
  subst hb; exact pu_of fun s _ _ _ _ k => isnot_none_gen (k _ s.toks rfl)
theorem c_notBool {c d : Bool} (ha : a = .bool c) (hb : b = .bool d) : Pu prog w A g L m n (compareOp .IsNot a b) (· = .bool (c != d)) := by
  subst ha hb; exact pu_of fun s _ _ _ _ k => isnot_bool (k _ s.toks rfl)
theorem c_isSelf {r : Addr} (ha : a = .ref r) (hb : b = .ref r) : Pu prog w A g L m n (compareOp .Is a b) (· = .bool true) := by
  subst ha hb; exact pu_of fun s _ _ _ _ k => wpAny_is_ref_self (k _ s.toks rfl)
theorem t_list {l : Addr} {items : Array Value} (hl : Kno g n (fun h => h.IsList l items)) (hz : (items.size : Int) < 2 ^ 60) : Pu prog w A g L m n (truthy (.ref l)) (· = !items.isEmpty) :=
  pu_of fun s _ _ F N k => wpAny_truthy_list (hl.here F N) (by omega) (k _ _ rfl)
theorem t_dict {d : Addr} {kvs : List (Str × Value)} (hs : (d == sysModules) = false) (hd : Kno g n (fun h => h.DictOf (strKind prog w) d kvs)) (hz : (kvs.length : Int) < 2 ^ 60) : Pu prog w A g L m n (truthy (.ref d)) (· = !kvs.isEmpty) :=
  pu_of fun s _ _ F N k => wpAny_truthy_dict hs (hd.here F N) (by omega) (k _ _ rfl)
end leaves

section slices
/-- a part of a slice -/
theorem pu_partNone : Pu prog w A g L m n (evalPart none env) (fun v => IsPart v none) := pu_of fun s _ _ _ _ k => evalPart_none_step (k _ s.toks .none)
theorem pu_partSome (h : Pu prog w A g L m n (eval e env) (IsI i)) : Pu prog w A g L m n (evalPart (some e) env) (fun v => IsPart v (some i)) :=
  ⟨fun s Q E F N k => evalPart_some_step (h.run F N fun v h1 tk p F1 N1 => k _ h1 tk _ ⟨rfl, by obtain ⟨t, rfl⟩ := p; exact .int i t⟩ F1 N1)⟩
theorem pu_neg (h : Pu prog w A g L m n (eval e env) (IsI i)) : Pu prog w A g L m n (eval (.UnaryOp .USub e pos) env) (IsI (-i)) :=
  ⟨fun s Q E F N k => UnaryOp_ (h.run F N fun v h1 tk p F1 N1 => by obtain ⟨t, rfl⟩ := p; exact PyProof.Rows.neg_int (k _ h1 _ _ ⟨rfl, _, rfl⟩ F1 N1))⟩
theorem letGo_str (base : Expr) (x : Str) (t : Tok) (r : Value) : letTemporaryGo base (.str x t) r = pure () := by cases base <;> rfl
theorem pu_sliceSS {p : Pos} (hz : x.length ≤ sizeLine) (ho : Pu prog w A g L m n (eval o env) (IsS x)) (h1 : Pu prog w A g L m n (eval e1 env) (IsI i)) (h2 : Pu prog w A g L m n (eval e2 env) (IsI j)) :
    Pu prog w A g L m n (eval (.Subscript o (.Slice (some e1) (some e2) none p) pos) env) (IsS (Txt.slice x (some i) (some j))) :=
  ⟨fun s Q E F N k => Subscript_ (ho.run F N fun v ha tka pa Fa Na => wpAny_Slice (evalPart_some_step (h1.run Fa Na fun v1 hb tkb pb Fb Nb => evalPart_some_step (h2.run Fb Nb fun v2 hc tkc pc Fc Nc => evalPart_none_step (by
    obtain ⟨t, rfl⟩ := pa; obtain ⟨t1, rfl⟩ := pb; obtain ⟨t2, rfl⟩ := pc
    exact slice_strN_ss (s := { s with heap := hc, toks := tkc }) Fc Nc (fun h' t' kk F' N' => k _ h' kk _ ⟨rfl, _, rfl⟩ F' N') (by with_unfolding_all rfl) (letGo_str _ _ _) hz)))))⟩
theorem tr_sliceL {l : Addr} {items : Array Value} {lo hi : Option Int} {p : Pos} {p1 p2 : Option Expr} (hl : Kno g n (fun h => h.IsList l items)) (hz : items.size ≤ sizeLine) (ho : Pu prog w A g L m n (eval o env) (· = .ref l))
    (h1 : Pu prog w A g L m n (evalPart p1 env) (fun v => IsPart v lo)) (h2 : Pu prog w A g L m n (evalPart p2 env) (fun v => IsPart v hi)) (ht : ∀ r, letTemporaryGo o (.ref l) r = pure () := by intro _; rfl) :
    Tr prog w A g L m n (eval (.Subscript o (.Slice p1 p2 none p) pos) env) (fun v n' => ∃ a, v = .ref a ∧ a ∉ n.map (·.1) ∧ n' = (a, listOf (slicePick items lo hi none) 0) :: n) :=
  ⟨fun s Q E F N k => Subscript_ (ho.run F N fun v ha tka pa Fa Na => wpAny_Slice (h1.run Fa Na fun v1 hb tkb pb Fb Nb => h2.run Fb Nb fun v2 hc tkc pc Fc Nc => evalPart_none_step (by
    subst pa
    exact kmk_slice (s := { s with heap := hc, toks := tkc }) Fc Nc (hl.here Fc Nc) pb pc (fun D h' F' N' hlt => k _ h' _ _ ⟨D, rfl, fun hm => by
      obtain ⟨q, hq, rfl⟩ := List.mem_map.mp hm
      exact absurd (hlt q hq) (Nat.lt_irrefl _), rfl⟩ F' N') (by with_unfolding_all rfl) ht hz)))⟩
end slices

section made
/-- a fresh place -/
def New (n : Led) (a : Addr) : Prop := a ∉ n.map (·.1) ∧ (a == sysModules) = false
theorem New.of_lt {g h : Heap} {L : Addr} {n : Led} {m : Str → Option Value} (B : Bas w g) (F : Fr g L h m) (N : News g L h n) : New n h.objs.size :=
  ⟨fun hm => by obtain ⟨q, hq, e⟩ := List.mem_map.mp hm; exact absurd (Heap.lt_size (N q hq).1) (by rw [e]; exact Nat.lt_irrefl _), F.notModules (modules_low B.lim)⟩
theorem tr_List {elts : List Expr} {Pa : List Value → Led → Prop} {P : Value → Led → Prop} (B : Bas w g) (h : Tr prog w A g L m n (spliced (backTo pos (starEach elts env))) Pa)
    (hP : ∀ vs n1, Pa vs n1 → vs.length ≤ 1000 ∧ ∀ a, New n1 a → P (.ref a) ((a, listOf vs.toArray 0) :: n1)) : Tr prog w A g L m n (eval (.List elts pos) env) P :=
  ⟨fun s Q E F N k => List_ (h.go s _ E F N fun vs h1 tk n1 p F1 N1 => newList_N F1 N1 (fun h2 F2 N2 => k _ h2 tk _ ((hP vs n1 p).2 _ (New.of_lt B F1 N1)) F2 N2) (by have := (hP vs n1 p).1; rw [sizeLine_eq]; omega))⟩
theorem tr_pairs0 {P : List (Value × Value) → Led → Prop} (h : P [] n) : Tr prog w A g L m n (evalPairs (pairTrees [] [] env pos)) P := ⟨fun s Q E F N k => pairTrees_nil_walk (k _ s.heap s.toks _ h F N)⟩
theorem tr_pairs {kx vx : Expr} {ks : List (Option Expr)} {vs : List Expr} {Pv : Value → Led → Prop} {P : List (Value × Value) → Led → Prop} (hk : Pu prog w A g L m n (eval kx env) (IsS x)) (hv : Tr prog w A g L m n (eval vx env) Pv)
    (h : ∀ kv v n1, IsS x kv → Pv v n1 → Tr prog w A g L m n1 (evalPairs (pairTrees ks vs env pos)) (fun r => P ((kv, v) :: r))) : Tr prog w A g L m n (evalPairs (pairTrees (some kx :: ks) (vx :: vs) env pos)) P :=
  ⟨fun s Q E F N k => pairTrees_cons_walk (hk.run F N fun kv h1 tk p F1 N1 => hv.go _ _ E F1 N1 fun v h2 tk2 n2 p2 F2 N2 => (h kv v n2 p p2).go _ _ E F2 N2 fun r h3 tk3 n3 p3 F3 N3 => k _ h3 tk3 n3 p3 F3 N3)⟩
/-- a dict display with written keys -/
theorem tr_Dict {keys : List (Option Expr)} {values : List Expr} {P : Value → Led → Prop} (B : Bas w g) (hall : keys.all (·.isSome) = true := by rfl) (hl : keys.length = values.length := by rfl) (h0 : keys ≠ [] := by exact List.cons_ne_nil _ _) (hlen : keys.length ≤ 15 := by decide)
    (h : ∀ d o, New n d → o.IsDictOf (strKind prog w) [] → Tr prog w A g L m ((d, o) :: n) (evalPairs (pairTrees keys values env pos)) (fun vs n1 => (d, o) ∈ n1 ∧ allStrKeys vs = true ∧ ((strPairs vs).map (·.1)).Nodup ∧
      ∀ o', o'.IsDictOf (strKind prog w) (strPairs vs) → P (.ref d) (put n1 d o'))) : Tr prog w A g L m n (eval (.Dict keys values pos) env) P :=
  ⟨fun s Q E F N k => kdn_eval (knd := strKind prog w) F N B.lim hall hl h0 hlen fun d h1 o F1 N1 hlt hsm hd => (h d o ⟨fun hm => by
      obtain ⟨q, hq, rfl⟩ := List.mem_map.mp hm
      exact absurd (hlt q hq) (Nat.lt_irrefl _), hsm⟩ hd).go _ _ E F1 N1 fun vs h2 tk2 n2 p F2 N2 => by
    obtain ⟨hm, hk, hn, hP⟩ := p
    exact kdn_made_str (s := { s with heap := h2, toks := tk2 }) F2 (news_put N2 hm) (.head (put_off _ _)) hd hk hn fun h3 o' F3 N3 hd' => k _ h3 _ _ (hP o' hd') F3 N3⟩
theorem tr_Dict0 {P : Value → Led → Prop} (B : Bas w g) (h : ∀ d o, New n d → o.IsDictOf (strKind prog w) [] → P (.ref d) ((d, o) :: n)) : Tr prog w A g L m n (eval (.Dict [] [] pos) env) P :=
  ⟨fun s Q E F N k => newDict_K F N B.lim fun d h1 o F1 N1 hlt hsm hd _ _ _ => k _ h1 _ _ (h d o ⟨fun hm => by
      obtain ⟨q, hq, rfl⟩ := List.mem_map.mp hm
      exact absurd (hlt q hq) (Nat.lt_irrefl _), hsm⟩ hd) F1 N1⟩
end made

section muts
/-- a tree that turns one object of the ledger -/
theorem tr_mut {α : Type} {t : Sem α} {P : α → Led → Prop} {a : Addr} {ob : Obj} (hm : (a, ob) ∈ n) (PO : α → Obj → Prop)
    (h : ∀ (s : Shared) (Q : α → Shared → Prop) (E : Value → Shared → Prop), Fr g L s.heap m → News g L s.heap n →
      (∀ v h' tk o', h'.get? a = some o' → PO v o' → Heap.SameBut a s.heap h' → Q v { s with heap := h', toks := tk }) → wpAny (model prog w) A t Q E s)
    (hP : ∀ v o', PO v o' → P v (put n a o')) : Tr prog w A g L m n t P :=
  ⟨fun s Q E F N k => h s Q E F N fun v h' tk o' ho hPO hs => k v h' tk _ (hP v o' hPO) (F.change hs (N _ hm).2.1 (N _ hm).2.2) fun p hp => by
    rcases List.mem_cons.mp hp with rfl | hp
    · exact ⟨ho, (N _ hm).2⟩
    · have z := N p (List.mem_filter.mp hp).1
      exact ⟨(hs.2 _ (put_off _ _ p hp)).trans z.1, z.2⟩⟩
theorem tr_setDict {d : Addr} {ob : Obj} {kvs : List (Str × Value)} {key v : Value} {P : Unit → Led → Prop} (hm : (d, ob) ∈ n) (hd : ob.IsDictOf (strKind prog w) kvs) (hk : IsS x key) (hz : kvs.length ≤ 1000)
    (hP : ∀ o', o'.IsDictOf (strKind prog w) (stored kvs x v) → P () (put n d o')) : Tr prog w A g L m n (setItem (.ref d) key v) P := by
  obtain ⟨t, rfl⟩ := hk
  exact tr_mut hm (fun _ o' => o'.IsDictOf (strKind prog w) (stored kvs x v)) (fun s Q E F N k => wpAny_setItem_pairs (strKind_is prog w x t) (Heap.dictOf_iff.mpr ⟨ob, (N _ hm).1, hd⟩)
    (fun h' hd' hs => by obtain ⟨o', ho', hi⟩ := Heap.dictOf_iff.mp hd'; exact k () h' _ o' ho' hi hs) (hsz := by rw [sizeLine_eq]; omega)) fun _ o' q => hP o' q
/-- any list -/
def IsLs (items : Array Value) (o : Obj) : Prop := o.cls = .type "list" ∧ ∃ k, o.data = .seq items k
theorem tr_setList {l : Addr} {ob : Obj} {items : Array Value} {k : Int} {key v : Value} {P : Unit → Led → Prop} (hm : (l, ob) ∈ n) (hl : IsLs items ob) (hk : IsI k key) (h0 : 0 ≤ k) (h1 : k < items.size) (hf : k < 2 ^ 63)
    (hP : ∀ o', IsLs (items.setIfInBounds k.toNat v) o' → P () (put n l o')) : Tr prog w A g L m n (setItem (.ref l) key v) P := by
  obtain ⟨t, rfl⟩ := hk
  exact tr_mut hm (fun _ o' => IsLs (items.setIfInBounds k.toNat v) o') (fun s Q E F N kk => wpAny_setItem_list (items := items) ⟨ob, (N _ hm).1, hl⟩ h0 hf h1
    (fun h' hd' hs => by obtain ⟨o', ho', hi⟩ := hd'; exact kk () h' s.toks o' ho' hi hs)) fun _ o' q => hP o' q
theorem tr_append {l : Addr} {items : Array Value} {k : Nat} {v : Value} {P : Value → Led → Prop} (hm : (l, listOf items k) ∈ n) (hz : items.size ≤ sizeLine) (hP : P .none (put n l (listOf (items.push v) (k + 1)))) :
    Tr prog w A g L m n (call (.builtin "list.append") [.ref l, v]) P :=
  ⟨fun s Q E F N kk => append_K F (news_put N hm) (.head (put_off _ _)) (fun h' F' N' => kk _ h' s.toks _ hP F' N') hz⟩
theorem tr_insert {l : Addr} {items : Array Value} {k : Nat} {iv v : Value} {its' : List Value} {P : Value → Led → Prop} (hm : (l, listOf items k) ∈ n) (hi : IsI i iv) (hf : Builtin.List.listFitsIndex i = true) (hz : items.toList.length ≤ sizeLine) (e : kl_ins items.toList i v = its')
    (hP : P .none (put n l (listOf its'.toArray (k + 1)))) : Tr prog w A g L m n (call (.builtin "list.insert") [.ref l, iv, v]) P := by
  obtain ⟨t, rfl⟩ := hi
  exact ⟨fun s Q E F N kk => kl_insert F (news_put N hm) hf e (.head (put_off _ _)) hz fun h' F' N' => kk _ h' s.toks _ hP F' N'⟩
end muts
end
end Mine
namespace Mine
section
variable {prog : Program} {w : World} {A : Around} {g : Heap} {L : Addr} {m : Str → Option Value} {n : Led} {s : Shared} {env : Env} {pos apos : Pos} {o e e1 e2 e3 : Expr} {x y : Str} {i j : Int}

theorem sx_while {test : Expr} {body rest : List Stmt} {R : Flow → (Str → Option Value) → Led → Prop} (I : Nat → (Str → Option Value) → Led → Prop) {D : (Str → Option Value) → Led → Prop} (k : Nat) (h0 : I k m n)
    (turn : ∀ k m n, I k m n → (Pu prog w A g L m n (isTrue test env (eval test env)) (· = true) ∧ Sx prog w A g L m n (execs body env) (fun fl m' n' => match fl with | .next => ∃ j, j < k ∧ I j m' n' | .cont => ∃ j, j < k ∧ I j m' n' | .brk => D m' n' | .ret v => R (.ret v) m' n')) ∨
      (Pu prog w A g L m n (isTrue test env (eval test env)) (· = false) ∧ D m n))
    (done : ∀ m n, D m n → Sx prog w A g L m n (execs rest env) R) : Sx prog w A g L m n (execs (.While test body [] pos :: rest) env) R :=
  sx_cons ⟨fun s Q E F N kk => wpAny_While (codeAny_whileLoop (fun k s' => ∃ m n h tk, s' = { s with heap := h, toks := tk } ∧ Fr g L h m ∧ News g L h n ∧ I k m n) (fun k s' hI => by
    obtain ⟨m1, n1, h, tk, rfl, F1, N1, hI⟩ := hI
    rcases turn k m1 n1 hI with ⟨ht, hb⟩ | ⟨ht, hd⟩
    · refine ht.run F1 N1 fun b h2 tk2 p F2 N2 => ?_
      subst p
      simp only [if_true]
      refine hb.go _ _ _ F2 N2 fun fl h3 tk3 m3 n3 p3 F3 N3 => ?_
      cases fl with
      | next => obtain ⟨j, hj, hI'⟩ := p3; exact ⟨j, hj, m3, n3, h3, tk3, rfl, F3, N3, hI'⟩
      | cont => obtain ⟨j, hj, hI'⟩ := p3; exact ⟨j, hj, m3, n3, h3, tk3, rfl, F3, N3, hI'⟩
      | brk => exact kk .next h3 tk3 m3 n3 (done m3 n3 p3) F3 N3
      | ret v => exact kk (.ret v) h3 tk3 m3 n3 p3 F3 N3
    · refine ht.run F1 N1 fun b h2 tk2 p F2 N2 => ?_
      subst p
      simp only [Bool.false_eq_true, if_false]
      exact wpAny_execs_nil (kk .next h2 tk2 m1 n1 (done m1 n1 hd) F2 N2)) k ⟨m, n, s.heap, s.toks, rfl, F, N, h0⟩)⟩

/-- a method of a BlockState called with one argument, nothing turned -/
theorem pu_m1 {a : Addr} {f : BS} {name : Str} {fa : Addr} {k : Nat} {P1 P : Value → Prop} {Pre : Heap → Prop} {RP : Value → Led → Prop} {pl : Sem Bool} (B : Bas w g) (hR : Room A k) (hx : Kno g n (fun h => BSAt h a f))
    (hf : findIn (KF w) (.ref 117) name = some (some (.ref fa))) (hfn : isFn (KF w) (.ref fa) = true) (hkp : keepIn (KF w) (.ref fa) = true)
    (hl : ∀ h1 h2 h3 h4 h5 h6 h7 h8 a1 a2 a3 a4 a5 a6 a7 a8 b1 b3 b4, getL name (bsEs h1 h2 h3 h4 h5 h6 h7 h8 a1 a2 a3 a4 a5 a6 a7 a8 b1 b3 b4 f) = some none)
    (ho : Pu prog w A g L m n (eval o env) (· = .ref a)) (h1 : Pu prog w A g L m n (eval e env) P1) (S : ∀ v, P1 v → FSpec prog w (.ref fa) [.ref a, v] k [] Pre RP) (hpre : Kno g n Pre) (hP : ∀ v n', RP v n' → P v)
    (he : eval (.Call (.Attribute o name apos) [e] [] pos) env = (do
      let ov ← eval o env
      standAt apos.atName
      let (f, first) ← holding [ov] (getMethod ov name pl)
      callWith pos f first (backTo pos (starEach [e] env)) (backToKw pos (keywordEach [] env))) := by rfl)
    (hs : starEach [e] env = (false, eval e env) :: starEach [] env := by rfl) :
    Pu prog w A g L m n (eval (.Call (.Attribute o name apos) [e] [] pos) env) P :=
  tr_Method (pl := pl) ho (fun ov q => by
    subst q
    exact ⟨_, _, pu_meth B hx hf hfn hl, tr_callWith B hkp (pu_args h1 pu_args0 hs) (fun vs n1 q => by
      obtain ⟨rfl, v, r, rfl, hv, rfl⟩ := q
      exact pu_call (S v hv) hR B hpre hP) hs rfl⟩) he
theorem pu_m0 {a : Addr} {f : BS} {name : Str} {fa : Addr} {k : Nat} {P : Value → Prop} {Pre : Heap → Prop} {RP : Value → Led → Prop} {pl : Sem Bool} (B : Bas w g) (hR : Room A k) (hx : Kno g n (fun h => BSAt h a f))
    (hf : findIn (KF w) (.ref 117) name = some (some (.ref fa))) (hfn : isFn (KF w) (.ref fa) = true) (hkp : keepIn (KF w) (.ref fa) = true)
    (hl : ∀ h1 h2 h3 h4 h5 h6 h7 h8 a1 a2 a3 a4 a5 a6 a7 a8 b1 b3 b4, getL name (bsEs h1 h2 h3 h4 h5 h6 h7 h8 a1 a2 a3 a4 a5 a6 a7 a8 b1 b3 b4 f) = some none)
    (ho : Pu prog w A g L m n (eval o env) (· = .ref a)) (S : FSpec prog w (.ref fa) [.ref a] k [] Pre RP) (hpre : Kno g n Pre) (hP : ∀ v n', RP v n' → P v)
    (he : eval (.Call (.Attribute o name apos) [] [] pos) env = (do
      let ov ← eval o env
      standAt apos.atName
      let (f, first) ← holding [ov] (getMethod ov name pl)
      callWith pos f first (backTo pos (starEach [] env)) (backToKw pos (keywordEach [] env))) := by rfl) :
    Pu prog w A g L m n (eval (.Call (.Attribute o name apos) [] [] pos) env) P :=
  tr_Method (pl := pl) ho (fun ov q => by
    subst q
    exact ⟨_, _, pu_meth B hx hf hfn hl, tr_callWith0 B hkp (pu_call S hR B hpre hP)⟩) he
end
end Mine
namespace Mine
theorem fill_frag : (PySem.Challenge.rw_bq5015_01, hd.heap_39) = (PySem.Challenge.rw_bq5015_01, hd.heap_39) := by k_fill; rfl
local macro_rules | `(tactic| walk_at "enter") => `(tactic| ((case ho => k_is); (case hcd => k_is); (case hbind => exact fun s _ => BindsTo.of_eq rfl); (case hloc => exact locs rfl); (case c2 => exact rfl); (case c3 => exact rfl); (case c4 => exact rfl); (case c5 => decide)))

/-- the sign of a line's end -/
abbrev nl : Str := Str.ofString "\n"
/-- behind the line's end, as the code finds it -/
def lend (x : Str) (p : Int) : Int := if Txt.find3 x nl p < 0 then x.length else Txt.find3 x nl p + 1

section
variable {prog : Program} {w : World}
theorem Pu.to {A : Around} {g : Heap} {L : Addr} {m : Str → Option Value} {n : Led} {t : Sem Value} {b b' : Bool} (h : Pu prog w A g L m n t (· = .bool b')) (e : b' = b) : Pu prog w A g L m n t (· = .bool b) := e ▸ h
theorem bs_kno {g : Heap} {n : Led} {x : Addr} {f : BS} (h : BSAt g x f) : Kno g n (fun h => BSAt h x f) := Kno.of h fun _ _ k b => b.keeps k

theorem s_find_line_end_at {x : Addr} {f : BS} {p : Value} {i : Int} (hp : IsI i p) (hz : (f.src.length : Int) < 2 ^ 60) :
    FSpec prog w (.ref 58) [.ref x, p] 2 [] (fun h => BSAt h x f) (fun v _ => IsI (lend f.src i) v) := by
  refine' fspec_of_body (binds := [(Str.ofString "self", .ref x), (Str.ofString "pos", p)]) ?ho ?hcd ?hbind ?hloc ?hb ?c2 ?c3 ?c4 ?c5
  walk_at "enter"
  intro A g L hR hB hx _
  refine sx_letPu (pu_find (pu_src hB (bs_kno hx) (pu_local rfl rfl)) pu_str (pu_local rfl hp)) fun v hv => ?_
  by_cases hneg : Txt.find3 f.src nl i < 0
  · refine sx_ifT (pu_testCmp (pu_local rfl hv) pu_int fun a b ha hb => (c_ltI ha hb).to (decide_eq_true hneg)) (sx_retPu (pu_lenStr hB hz (pu_src hB (bs_kno hx) (pu_local rfl rfl))) fun v hv => ?_)
    unfold lend; rw [if_pos hneg]; exact hv
  · refine sx_skip (pu_testCmp (pu_local rfl hv) pu_int fun a b ha hb => (c_ltI ha hb).to (decide_eq_false hneg)) (sx_retPu (pu_add (pu_local rfl hv) pu_int) fun v hv => ?_)
    unfold lend; rw [if_neg hneg]; exact hv

theorem s_find_line_end {x : Addr} {f : BS} (hz : (f.src.length : Int) < 2 ^ 60) :
    FSpec prog w (.ref 51) [.ref x] 3 [] (fun h => BSAt h x f) (fun v _ => IsI (lend f.src f.cur) v) := by
  refine' fspec_of_body (binds := [(Str.ofString "self", .ref x)]) ?ho ?hcd ?hbind ?hloc ?hb ?c2 ?c3 ?c4 ?c5
  walk_at "enter"
  intro A g L hR hB hx _
  exact sx_retPu (pu_m1 hB hR (bs_kno hx) (m_find_line_end_at w) (fn_find_line_end_at w) (kp_find_line_end_at w) (by intros; rfl) (pu_local rfl rfl) (pu_cursor hB (bs_kno hx) (pu_local rfl rfl))
    (fun v hv => s_find_line_end_at hv hz) (bs_kno hx) (fun v _ q => q)) fun v hv => hv

theorem s_get_text {x : Addr} {f : BS} {p : Value} {j : Int} (hp : IsI j p) (hz : f.src.length ≤ sizeLine) :
    FSpec prog w (.ref 65) [.ref x, p] 2 [] (fun h => BSAt h x f) (fun v _ => IsS (Txt.slice f.src (some f.cur) (some j)) v) := by
  refine' fspec_of_body (binds := [(Str.ofString "self", .ref x), (Str.ofString "end_pos", p)]) ?ho ?hcd ?hbind ?hloc ?hb ?c2 ?c3 ?c4 ?c5
  walk_at "enter"
  intro A g L hR hB hx _
  exact sx_retPu (pu_sliceSS hz (pu_src hB (bs_kno hx) (pu_local rfl rfl)) (pu_cursor hB (bs_kno hx) (pu_local rfl rfl)) (pu_local rfl hp)) fun v hv => hv

theorem s_get_line {x : Addr} {f : BS} {p : Value} {i : Int} (hp : IsI i p) (hz : f.src.length ≤ sizeLine) :
    FSpec prog w (.ref 72) [.ref x, p] 3 [] (fun h => BSAt h x f) (fun v _ => IsS (Txt.slice f.src (some i) (some (lend f.src i))) v) := by
  refine' fspec_of_body (binds := [(Str.ofString "self", .ref x), (Str.ofString "start_pos", p)]) ?ho ?hcd ?hbind ?hloc ?hb ?c2 ?c3 ?c4 ?c5
  walk_at "enter"
  intro A g L hR hB hx _
  exact sx_retPu (pu_sliceSS hz (pu_src hB (bs_kno hx) (pu_local rfl rfl)) (pu_local rfl hp)
    (pu_m1 hB hR (bs_kno hx) (m_find_line_end_at w) (fn_find_line_end_at w) (kp_find_line_end_at w) (by intros; rfl) (pu_local rfl rfl) (pu_local rfl hp)
      (fun v hv => s_find_line_end_at hv (by rw [sizeLine_eq] at hz; omega)) (bs_kno hx) (fun v _ q => q))) fun v hv => hv

/-- the last item, or nothing -/
def lastV (vs : List Value) : Value := vs.getLast?.getD .none
theorem s_last_token {x : Addr} {f : BS} {vs : List Value} (hz : vs.length ≤ sizeLine) :
    FSpec prog w (.ref 79) [.ref x] 2 [] (fun h => BSAt h x f ∧ h.IsList f.T vs.toArray) (fun v _ => v = lastV vs) := by
  refine' fspec_of_body (binds := [(Str.ofString "self", .ref x)]) ?ho ?hcd ?hbind ?hloc ?hb ?c2 ?c3 ?c4 ?c5
  walk_at "enter"
  rintro A g L hR hB ⟨hx, hl⟩ _
  have hT : ∀ {n}, Kno g n (fun h => h.IsList f.T vs.toArray) := Kno.of hl fun h h' k b => b.at fun o e => k _ _ e
  have hz' : (vs.toArray.size : Int) < 2 ^ 60 := by rw [sizeLine_eq] at hz; simp; omega
  rcases List.eq_nil_or_concat vs with rfl | ⟨r, v, rfl⟩
  · exact sx_skip (pu_test (pu_tokens hB (bs_kno hx) (pu_local rfl rfl)) fun v e => by subst e; exact (t_list hT hz')) (sx_nil rfl)
  · refine sx_ifT (pu_test (pu_tokens hB (bs_kno hx) (pu_local rfl rfl)) fun v e => by subst e; exact (t_list hT hz').mono (by simp)) (sx_retPu (P := (· = v))
      (pu_itemNeg (k := -1) hT (by decide) (by simp; omega) (by decide) (v := v) (by
        have e : (-1 + ((r.length : Int) + 1)).toNat = r.length := by omega
        simp [e]) rfl (pu_tokens hB (bs_kno hx) (pu_local rfl rfl)) (pu_neg pu_int)) fun u e => ?_)
    show retv _ = _
    subst e; simp [retv, lastV]

/-- what an append to or an insert into the tokens leaves -/
theorem s_append_token {x : Addr} {f : BS} {vs : List Value} {k : Nat} {v : Value} (hz : vs.length ≤ 1000) :
    FSpec prog w (.ref 93) [.ref x, v] 2 [(f.T, listOf vs.toArray k)] (fun h => BSAt h x f) (fun v' n' => v' = .none ∧ n' = [(f.T, listOf (vs ++ [v]).toArray (k + 1))]) := by
  refine' fspec_of_body (binds := [(Str.ofString "self", .ref x), (Str.ofString "token", v)]) ?ho ?hcd ?hbind ?hloc ?hb ?c2 ?c3 ?c4 ?c5
  walk_at "enter"
  intro A g L hR hB hx _
  refine sx_expr (P := fun v' n' => n' = [(f.T, listOf (vs ++ [v]).toArray (k + 1))]) (tr_Method (pu_tokens hB (bs_kno hx) (pu_local rfl rfl)) fun ov e => ?_) fun u n1 e => sx_nil ⟨rfl, e⟩
  subst e
  refine ⟨_, _, pu_getB (T := "list") (fun h _ q s e => ?_) PySem.F.plainAttrs_list PySem.F.slot_list_append PySem.F.type_list_append (fun a e => ?_), tr_callWithB (fun a e => by cases e) (pu_args (pu_local (P := (· = v)) rfl rfl) pu_args0) fun us n1 q => ?_⟩
  · subst e; exact ⟨_, q _ (.head _), rfl⟩
  · cases e; exact fun h _ q => ⟨_, q _ (.head _), rfl⟩
  · obtain ⟨rfl, v', r, rfl, rfl, rfl⟩ := q
    exact tr_append (.head _) (by rw [sizeLine_eq]; simp; omega) (by simp [put])
theorem s_prepend_token {x : Addr} {f : BS} {vs : List Value} {k : Nat} {v : Value} (hz : vs.length ≤ 1000) :
    FSpec prog w (.ref 86) [.ref x, v] 2 [(f.T, listOf vs.toArray k)] (fun h => BSAt h x f) (fun v' n' => v' = .none ∧ n' = [(f.T, listOf (kl_ins vs ((vs.length : Int) - 1) v).toArray (k + 1))]) := by
  refine' fspec_of_body (binds := [(Str.ofString "self", .ref x), (Str.ofString "token", v)]) ?ho ?hcd ?hbind ?hloc ?hb ?c2 ?c3 ?c4 ?c5
  walk_at "enter"
  intro A g L hR hB hx _
  refine sx_expr (P := fun v' n' => n' = [(f.T, listOf (kl_ins vs ((vs.length : Int) - 1) v).toArray (k + 1))]) (tr_Method (pu_tokens hB (bs_kno hx) (pu_local rfl rfl)) fun ov e => ?_) fun u n1 e => sx_nil ⟨rfl, e⟩
  subst e
  have hT : Kno g [(f.T, listOf vs.toArray k)] (fun h => h.IsList f.T vs.toArray) := fun h _ q => ⟨_, q _ (.head _), rfl, k, rfl⟩
  refine ⟨_, _, pu_getB (T := "list") (fun h _ q s e => ?_) PySem.F.plainAttrs_list PySem.F.slot_list_insert PySem.F.type_list_insert (fun a e => ?_),
    tr_callWithB (fun a e => by cases e) (pu_args (pu_sub (pu_lenList hB hT (by simp; omega) (pu_tokens hB (bs_kno hx) (pu_local rfl rfl))) pu_int) (pu_args (pu_local (P := (· = v)) rfl rfl) pu_args0)) fun us n1 q => ?_⟩
  · subst e; exact ⟨_, q _ (.head _), rfl⟩
  · cases e; exact fun h _ q => ⟨_, q _ (.head _), rfl⟩
  · obtain ⟨rfl, v1, r, rfl, h1, v', r', rfl, rfl, rfl⟩ := q
    refine tr_insert (.head _) h1 ?_ (by rw [sizeLine_eq]; simp; omega) rfl (by simp [put])
    simp [Builtin.List.listFitsIndex]; omega
end
end Mine
namespace Mine
theorem fill_frag2 : (PySem.Challenge.rw_bq5015_01, hd.heap_39) = (PySem.Challenge.rw_bq5015_01, hd.heap_39) := by k_fill; rfl
local macro_rules | `(tactic| walk_at "enter") => `(tactic| ((case ho => k_is); (case hcd => k_is); (case hbind => exact fun s _ => BindsTo.of_eq rfl); (case hloc => exact locs rfl); (case c2 => exact rfl); (case c3 => exact rfl); (case c4 => exact rfl); (case c5 => decide)))
section
variable (w : World)
theorem k_src : takerIn (KF w) 117 (Str.ofString "src") = some none := by kernel_rfl
theorem k_limit : takerIn (KF w) 117 (Str.ofString "cursor_max") = some none := by kernel_rfl
theorem k_cursor : takerIn (KF w) 117 (Str.ofString "cursor") = some none := by kernel_rfl
theorem k_lazy : takerIn (KF w) 117 (Str.ofString "lazy_line_starts") = some none := by kernel_rfl
end
section
variable {prog : Program} {w : World} {A : Around} {g : Heap} {L : Addr} {m : Str → Option Value} {n : Led}
theorem tr_setBS {x dx : Addr} {f f' : BS} {name : Str} {v : Value} {o : Obj} {P : Unit → Led → Prop} (B : Bas w g) (hm : (dx, o) ∈ n) (hx : Kno g n (fun h => h.get? x = some (instObj 117 dx))) (hbs : IsBS f o) (ht : takerIn (KF w) 117 name = some none)
    (hput : ∀ h1 h2 h3 h4 h5 h6 h7 h8 a1 a2 a3 a4 a5 a6 a7 a8 b1 b3 b4 k hsh tk, (getL name (bsEs h1 h2 h3 h4 h5 h6 h7 h8 a1 a2 a3 a4 a5 a6 a7 a8 b1 b3 b4 f)).isSome = true ∧
      ∃ es' k', (putL name hsh (.str name tk) v (bsEs h1 h2 h3 h4 h5 h6 h7 h8 a1 a2 a3 a4 a5 a6 a7 a8 b1 b3 b4 f), putN name (bsEs h1 h2 h3 h4 h5 h6 h7 h8 a1 a2 a3 a4 a5 a6 a7 a8 b1 b3 b4 f) k) = (es', k') ∧ es'.length ≤ 1000 ∧ IsBS f' (dictOf es' k'))
    (hP : ∀ o', IsBS f' o' → P () (put n dx o')) : Tr prog w A g L m n (setAttr (.ref x) name v) P := by
  refine ⟨fun s Q E F N kk => ?_⟩
  obtain ⟨h1, h2, h3, h4, h5, h6, h7, h8, a1, a2, a3, a4, a5, a6, a7, a8, b1, b3, b4, k, rfl⟩ := hbs
  obtain ⟨hs, es', k', e, hz, hbs'⟩ := hput h1 h2 h3 h4 h5 h6 h7 h8 a1 a2 a3 a4 a5 a6 a7 a8 b1 b3 b4 k (PyData.keyHash w.params name) (s.toks + 1)
  have I : InstAt s.heap x (instObj 117 dx) 117 (some (dictOf (bsEs h1 h2 h3 h4 h5 h6 h7 h8 a1 a2 a3 a4 a5 a6 a7 a8 b1 b3 b4 f) k)) := ⟨hx.here F N, rfl, rfl, (N _ hm).1⟩
  exact set_dict F B.k (news_put N hm) I rfl (c_setattr w) (c_plain w) ht (c_dict w) hs e (.head (put_off _ _)) hz fun h' F' N' => kk () h' _ _ (hP _ hbs') F' N'
section
variable {x dx : Addr} {f : BS} {o : Obj} {P : Unit → Led → Prop} (B : Bas w g) (hm : (dx, o) ∈ n) (hx : Kno g n (fun h => h.get? x = some (instObj 117 dx))) (hbs : IsBS f o)
include B hm hx hbs
theorem tr_setSrc {v : Value} {y : Str} (hv : IsS y v) (hP : ∀ o', IsBS { f with src := y } o' → P () (put n dx o')) : Tr prog w A g L m n (setAttr (.ref x) (Str.ofString "src") v) P := by
  obtain ⟨t, rfl⟩ := hv
  exact tr_setBS (f' := { f with src := y }) B hm hx hbs (k_src w) (fun h1 h2 h3 h4 h5 h6 h7 h8 a1 a2 a3 a4 a5 a6 a7 a8 b1 b3 b4 k hsh tk => ⟨rfl, _, _, rfl, Nat.le_of_ble_eq_true rfl, h1, h2, h3, h4, h5, h6, h7, h8, a1, a2, a3, a4, a5, a6, a7, a8, t, b3, b4, _, rfl⟩) hP
theorem tr_setCur {v : Value} {y : Int} (hv : IsI y v) (hP : ∀ o', IsBS { f with cur := y } o' → P () (put n dx o')) : Tr prog w A g L m n (setAttr (.ref x) (Str.ofString "cursor") v) P := by
  obtain ⟨t, rfl⟩ := hv
  exact tr_setBS (f' := { f with cur := y }) B hm hx hbs (k_cursor w) (fun h1 h2 h3 h4 h5 h6 h7 h8 a1 a2 a3 a4 a5 a6 a7 a8 b1 b3 b4 k hsh tk => ⟨rfl, _, _, rfl, Nat.le_of_ble_eq_true rfl, h1, h2, h3, h4, h5, h6, h7, h8, a1, a2, a3, a4, a5, a6, a7, a8, b1, t, b4, _, rfl⟩) hP
theorem tr_setLim {v : Value} {y : Int} (hv : IsI y v) (hP : ∀ o', IsBS { f with lim := y } o' → P () (put n dx o')) : Tr prog w A g L m n (setAttr (.ref x) (Str.ofString "cursor_max") v) P := by
  obtain ⟨t, rfl⟩ := hv
  exact tr_setBS (f' := { f with lim := y }) B hm hx hbs (k_limit w) (fun h1 h2 h3 h4 h5 h6 h7 h8 a1 a2 a3 a4 a5 a6 a7 a8 b1 b3 b4 k hsh tk => ⟨rfl, _, _, rfl, Nat.le_of_ble_eq_true rfl, h1, h2, h3, h4, h5, h6, h7, h8, a1, a2, a3, a4, a5, a6, a7, a8, b1, b3, t, _, rfl⟩) hP
theorem tr_setLazy {a : Addr} (hP : ∀ o', IsBS { f with S := a } o' → P () (put n dx o')) : Tr prog w A g L m n (setAttr (.ref x) (Str.ofString "lazy_line_starts") (.ref a)) P :=
  tr_setBS (f' := { f with S := a }) B hm hx hbs (k_lazy w) (fun h1 h2 h3 h4 h5 h6 h7 h8 a1 a2 a3 a4 a5 a6 a7 a8 b1 b3 b4 k hsh tk => ⟨rfl, _, _, rfl, Nat.le_of_ble_eq_true rfl, h1, h2, h3, h4, h5, h6, h7, h8, a1, a2, a3, a4, a5, a6, a7, a8, b1, b3, b4, _, rfl⟩) hP
end

theorem s_process {x dx : Addr} {f : BS} {o : Obj} {p : Value} {y : Str} (hp : IsS y p) (hbs : IsBS f o) (hz : (y.length : Int) < 2 ^ 60) :
    FSpec prog w (.ref 44) [.ref x, p] 2 [(dx, o)] (fun h => h.get? x = some (instObj 117 dx)) (fun v n' => v = .none ∧ ∃ o', IsBS { f with src := y, lim := y.length } o' ∧ n' = [(dx, o')]) := by
  refine' fspec_of_body (binds := [(Str.ofString "self", .ref x), (Str.ofString "src", p)]) ?ho ?hcd ?hbind ?hloc ?hb ?c2 ?c3 ?c4 ?c5
  walk_at "enter"
  intro A g L hR hB hx _
  refine sx_attr (P := fun v n' => n' = [(dx, o)] ∧ IsS y v) (P2 := fun v ov n' => n' = [(dx, o)] ∧ IsS y v ∧ ov = .ref x) (pu_local rfl hp) (fun v n1 q => ?_) fun v ov n1 q => ?_
  · obtain ⟨rfl, hv⟩ := q; exact Tr.mono (pu_local (P := (· = .ref x)) rfl rfl) fun u n' e => ⟨e.1, hv, e.2⟩
  obtain ⟨rfl, hv, rfl⟩ := q
  refine tr_setSrc hB (.head _) (Kno.base hx) hbs hv fun o1 h1 => ?_
  have e1 : put [(dx, o)] dx o1 = [(dx, o1)] := by simp [put]
  rw [e1]
  refine sx_attr (P := fun v n' => n' = [(dx, o1)] ∧ IsI y.length v) (P2 := fun v ov n' => n' = [(dx, o1)] ∧ IsI y.length v ∧ ov = .ref x) (pu_lenStr hB hz (pu_local rfl hp)) (fun v n1 q => ?_) fun v ov n1 q => ?_
  · obtain ⟨rfl, hv⟩ := q; exact Tr.mono (pu_local (P := (· = .ref x)) rfl rfl) fun u n' e => ⟨e.1, hv, e.2⟩
  obtain ⟨rfl, hv, rfl⟩ := q
  refine tr_setLim hB (.head _) (Kno.base hx) h1 hv fun o2 h2 => sx_nil ⟨rfl, o2, h2, ?_⟩
  simp [put]
end
end Mine
namespace Mine
theorem fill_frag3 : (PySem.Challenge.rw_bq5015_01, hd.heap_39) = (PySem.Challenge.rw_bq5015_01, hd.heap_39) := by k_fill; rfl
local macro_rules | `(tactic| walk_at "enter") => `(tactic| ((case ho => k_is); (case hcd => k_is); (case hbind => exact fun s _ => BindsTo.of_eq rfl); (case hloc => exact locs rfl); (case c2 => exact rfl); (case c3 => exact rfl); (case c4 => exact rfl); (case c5 => decide)))
section
variable {prog : Program} {w : World} {A : Around} {g : Heap} {L : Addr} {m : Str → Option Value} {n : Led}

abbrev sType : Str := Str.ofString "type"
abbrev sText : Str := Str.ofString "text"
abbrev sPar : Str := Str.ofString "paragraph"
/-- a token: a dict of its kind and its text -/
def IsTok (prog : Program) (w : World) (ty tx : Str) (o : Obj) : Prop := ∃ t1 t2, o.IsDictOf (strKind prog w) [(sType, .str ty t1), (sText, .str tx t2)]
def TokAt (prog : Program) (w : World) (h : Heap) (a : Addr) (ty tx : Str) : Prop := ∃ o, h.get? a = some o ∧ IsTok prog w ty tx o
theorem TokAt.keeps {h h' : Heap} {a : Addr} {ty tx : Str} (k : h.StaysIn h') (b : TokAt prog w h a ty tx) : TokAt prog w h' a ty tx := let ⟨o, a, c⟩ := b; ⟨o, k _ _ a, c⟩

theorem pu_getKey {d : Addr} {kvs : List (Str × Value)} {x : Str} {key v : Value} {P : Value → Prop} (hd : Kno g n (fun h => h.DictOf (strKind prog w) d kvs)) (hk : IsS x key) (hx : valueAt kvs x = some v) (hP : P v) :
    Pu prog w A g L m n (getItem (.ref d) key) P := by
  obtain ⟨u, rfl⟩ := hk
  exact pu_of fun s _ _ F N k => wpAny_getItem_of (strKind_is prog w x u) (hd.here F N).mapOf hx (k _ _ hP)
theorem c_iaddS {x y : Str} {a b : Value} (hz : x.length + y.length ≤ sizeLine) (ha : IsS x a) (hb : IsS y b) : Pu prog w A g L m n (inplaceOp .Add a b) (IsS (x ++ y)) := by
  obtain ⟨t, rfl⟩ := ha; obtain ⟨u, rfl⟩ := hb
  exact pu_of fun s _ _ _ _ k => PyProof.Rows.iadd_str (fun _ _ => k _ _ ⟨_, rfl⟩) hz

theorem s_add_join {x t : Addr} {f : BS} {vs : List Value} {ot : Obj} {tx y : Str} {p : Value} (hp : IsS y p) (hz : vs.length ≤ sizeLine) (hl : lastV vs = .ref t) (ht : IsTok prog w sPar tx ot) (hs : (t == sysModules) = false) (hy : tx.length + y.length ≤ sizeLine) :
    FSpec prog w (.ref 100) [.ref x, p] 4 [(t, ot)] (fun h => BSAt h x f ∧ h.IsList f.T vs.toArray) (fun v n' => v = .none ∧ ∃ o', IsTok prog w sPar (tx ++ y) o' ∧ n' = [(t, o')]) := by
  refine' fspec_of_body (binds := [(Str.ofString "self", .ref x), (Str.ofString "text", p)]) ?ho ?hcd ?hbind ?hloc ?hb ?c2 ?c3 ?c4 ?c5
  walk_at "enter"
  rintro A g L hR hB ⟨hx, hL⟩ _
  have hT : ∀ {n}, Kno g n (fun h => BSAt h x f ∧ h.IsList f.T vs.toArray) := (bs_kno hx).and (Kno.of hL fun h h' k b => b.at fun o e => k _ _ e)
  obtain ⟨t1, t2, hd⟩ := ht
  have hD : Kno g [(t, ot)] (fun h => h.DictOf (strKind prog w) t [(sType, .str sPar t1), (sText, .str tx t2)]) := fun h _ q => Heap.dictOf_iff.mpr ⟨ot, q _ (.head _), hd⟩
  refine sx_letPu (P := (· = .ref t)) (pu_m0 hB (hR.le (by decide)) (bs_kno hx) (m_last_token w) (fn_last_token w) (kp_last_token w) (by intros; rfl) (pu_local rfl rfl) (s_last_token hz) hT (fun v _ e => e.trans hl)) fun v e => ?_
  subst e
  refine sx_ifT (pu_andT (pu_test (pu_local (P := (· = .ref t)) rfl rfl) fun v e => by subst e; exact t_dict hs hD (by simp))
    (pu_andT (pu_testCmp (pu_key hD rfl ⟨_, rfl⟩ (pu_local rfl rfl) pu_str) pu_str fun a b ha hb => (c_eqS ha hb).to (by decide +kernel)) pu_andE)) ?_
  refine sx_augkey (pu_local rfl rfl) pu_str (fun iv hi => pu_getKey hD hi rfl ⟨_, rfl⟩) (pu_local rfl hp) (fun a b ha hb => c_iaddS hy ha hb) fun v iv hv hi => ?_
  obtain ⟨u, rfl⟩ := hv
  refine tr_setDict (.head _) hd hi (by simp) fun o' ho' => sx_nil ?_
  refine sx_nil ⟨rfl, o', ⟨t1, u, ho'⟩, ?_⟩
  simp [put]
theorem s_add_new {x : Addr} {f : BS} {vs : List Value} {k : Nat} {y : Str} {p : Value} (hp : IsS y p) (hz : vs.length ≤ 1000)
    (hl : lastV vs = .none ∨ ∃ t, lastV vs = .ref t ∧ (t == sysModules) = false) :
    FSpec prog w (.ref 100) [.ref x, p] 4 [(f.T, listOf vs.toArray k)] (fun h => BSAt h x f ∧ ∀ t, lastV vs = .ref t → ∃ ty tx, TokAt prog w h t ty tx ∧ ty ≠ sPar)
      (fun v n' => v = .none ∧ ∃ d o', New [] d ∧ IsTok prog w sPar y o' ∧ n' = [(f.T, listOf (vs ++ [Value.ref d]).toArray (k + 1)), (d, o')] ∧ d ≠ f.T) := by
  refine' fspec_of_body (binds := [(Str.ofString "self", .ref x), (Str.ofString "text", p)]) ?ho ?hcd ?hbind ?hloc ?hb ?c2 ?c3 ?c4 ?c5
  walk_at "enter"
  rintro A g L hR hB ⟨hx, hty⟩ _
  have hT : Kno g [(f.T, listOf vs.toArray k)] (fun h => BSAt h x f ∧ h.IsList f.T vs.toArray) := (bs_kno hx).and fun h _ q => ⟨_, q _ (.head _), rfl, k, rfl⟩
  refine sx_letPu (P := (· = lastV vs)) (pu_m0 hB (hR.le (by decide)) (bs_kno hx) (m_last_token w) (fn_last_token w) (kp_last_token w) (by intros; rfl) (pu_local rfl rfl) (s_last_token (by rw [sizeLine_eq]; omega)) hT (fun v _ e => e)) fun v e => ?_
  subst e
  refine sx_ifF ?_ ?_
  · rcases hl with hl | ⟨t, hl, hs⟩
    · exact pu_andF (pu_test (pu_local (P := (· = .none)) rfl hl) fun v e => by subst e; exact pu_tnone)
    · obtain ⟨ty, tx, ⟨ot, hot, t1, t2, hd⟩, hne⟩ := hty t hl
      have hD : ∀ {n}, Kno g n (fun h => h.DictOf (strKind prog w) t [(sType, .str ty t1), (sText, .str tx t2)]) := fun h q _ => Heap.dictOf_iff.mpr ⟨ot, q _ _ hot, hd⟩
      exact pu_andT (pu_test (pu_local (P := (· = .ref t)) rfl hl) fun v e => by subst e; exact t_dict hs hD (by simp))
        (pu_andF (pu_testCmp (pu_key hD rfl ⟨_, rfl⟩ (pu_local rfl hl) pu_str) pu_str fun a b ha hb => (c_eqS ha hb).to (by simpa using hne)))
  · refine sx_expr (P := fun v n' => ∃ d o', New [] d ∧ IsTok prog w sPar y o' ∧ n' = [(f.T, listOf (vs ++ [Value.ref d]).toArray (k + 1)), (d, o')] ∧ d ≠ f.T) (tr_Method (pu_tokens hB (bs_kno hx) (pu_local rfl rfl)) fun ov e => ?_) fun u n1 e => sx_nil (sx_nil ⟨rfl, e⟩)
    subst e
    refine ⟨_, _, pu_getB (T := "list") (fun h _ q s e => ?_) PySem.F.plainAttrs_list PySem.F.slot_list_append PySem.F.type_list_append (fun a e => ?_),
      tr_callWithB (Pargs := fun us n1 => ∃ d o', us = [.ref d] ∧ New [(f.T, listOf vs.toArray k)] d ∧ IsTok prog w sPar y o' ∧ n1 = [(d, o'), (f.T, listOf vs.toArray k)]) (fun a e => by cases e) (tr_args (P := fun v n1 => ∃ d o', v = .ref d ∧ New [(f.T, listOf vs.toArray k)] d ∧ IsTok prog w sPar y o' ∧ n1 = [(d, o'), (f.T, listOf vs.toArray k)])
        (tr_Dict hB (h := fun d o hn ho => ?_)) fun v n1 q => ?_) fun us n1 q => ?_⟩
    · subst e; exact ⟨_, q _ (.head _), rfl⟩
    · cases e; exact fun h _ q => ⟨_, q _ (.head _), rfl⟩
    · have hne : f.T ≠ d := fun e => hn.1 (by simp [e])
      refine tr_pairs (Pv := fun v n' => n' = [(d, o), (f.T, listOf vs.toArray k)] ∧ IsS sPar v) pu_str pu_str fun kv v n1 hk q => ?_
      obtain ⟨rfl, u1, rfl⟩ := q
      refine tr_pairs (Pv := fun v n' => n' = [(d, o), (f.T, listOf vs.toArray k)] ∧ IsS y v) pu_str (pu_local rfl hp) fun kv2 v2 n1 hk2 q => ?_
      obtain ⟨rfl, u2, rfl⟩ := q
      obtain ⟨u3, rfl⟩ := hk; obtain ⟨u4, rfl⟩ := hk2
      refine tr_pairs0 ⟨.head _, rfl, (show [sType, sText].Nodup from by decide +kernel), fun o' ho' => ⟨d, o', rfl, hn, ⟨u1, u2, ho'⟩, ?_⟩⟩
      simp [put, hne]
    · obtain ⟨d, o', rfl, hn, ho', rfl⟩ := q
      exact Tr.mono pu_args0 fun r n' q => by obtain ⟨rfl, rfl⟩ := q; exact ⟨d, o', rfl, hn, ho', rfl⟩
    · obtain ⟨d, o', rfl, hn, ho', rfl⟩ := q
      have hne : d ≠ f.T := fun e => hn.1 (by simp [e])
      refine tr_append (.tail _ (.head _)) (by rw [sizeLine_eq]; simp; omega) ⟨d, o', ⟨by simp, hn.2⟩, ho', ?_, hne⟩
      simp [put, hne]

/-- append_paragraph with a paragraph at the end -/
theorem s_app_join {x t : Addr} {f : BS} {vs : List Value} {ot : Obj} {tx : Str} (hz : vs.length ≤ sizeLine) (hl : lastV vs = .ref t) (ht : IsTok prog w sPar tx ot) (hs : (t == sysModules) = false) (hzs : f.src.length ≤ 1000) (hy : tx.length + 1000 ≤ sizeLine) (hsl : (Txt.slice f.src (some f.cur) (some (lend f.src f.cur))).length ≤ 1000) :
    FSpec prog w (.ref 107) [.ref x] 5 [(t, ot)] (fun h => BSAt h x f ∧ h.IsList f.T vs.toArray)
      (fun v n' => IsI (lend f.src f.cur) v ∧ ∃ o', IsTok prog w sPar (tx ++ Txt.slice f.src (some f.cur) (some (lend f.src f.cur))) o' ∧ n' = [(t, o')]) := by
  refine' fspec_of_body (binds := [(Str.ofString "self", .ref x)]) ?ho ?hcd ?hbind ?hloc ?hb ?c2 ?c3 ?c4 ?c5
  walk_at "enter"
  rintro A g L hR hB ⟨hx, hL⟩ _
  have hT : ∀ {n}, Kno g n (fun h => BSAt h x f ∧ h.IsList f.T vs.toArray) := (bs_kno hx).and (Kno.of hL fun h h' k b => b.at fun o e => k _ _ e)
  obtain ⟨t1, t2, hd⟩ := ht
  have hD : Kno g [(t, ot)] (fun h => h.DictOf (strKind prog w) t [(sType, .str sPar t1), (sText, .str tx t2)]) := fun h _ q => Heap.dictOf_iff.mpr ⟨ot, q _ (.head _), hd⟩
  refine sx_letPu (P := (· = .ref t)) (pu_m0 hB (hR.le (by decide)) (bs_kno hx) (m_last_token w) (fn_last_token w) (kp_last_token w) (by intros; rfl) (pu_local rfl rfl) (s_last_token hz) hT (fun v _ e => e.trans hl)) fun v e => ?_
  subst e
  refine sx_ifT (pu_andT (pu_test (pu_local (P := (· = .ref t)) rfl rfl) fun v e => by subst e; exact t_dict hs hD (by simp))
    (pu_andT (pu_testCmp (pu_key hD rfl ⟨_, rfl⟩ (pu_local rfl rfl) pu_str) pu_str fun a b ha hb => (c_eqS ha hb).to (by decide +kernel)) pu_andE)) ?_
  refine sx_letPu (P := IsI (lend f.src f.cur)) (pu_m0 hB (hR.le (by decide)) (bs_kno hx) (m_find_line_end w) (fn_find_line_end w) (kp_find_line_end w) (by intros; rfl) (pu_local rfl rfl) (s_find_line_end (by omega)) (bs_kno hx) (fun v _ e => e)) fun v hv => ?_
  refine sx_augkey (pu_local rfl rfl) pu_str (fun iv hi => pu_getKey hD hi rfl ⟨_, rfl⟩) (pu_m1 hB (hR.le (by decide)) (bs_kno hx) (m_get_text w) (fn_get_text w) (kp_get_text w) (by intros; rfl) (pu_local rfl rfl) (pu_local rfl hv)
    (fun v hv => s_get_text hv (by rw [sizeLine_eq]; omega)) (bs_kno hx) (fun v _ q => q)) (fun a b ha hb => c_iaddS (by omega) ha hb) fun v iv hv' hi => ?_
  obtain ⟨u, rfl⟩ := hv'
  refine tr_setDict (.head _) hd hi (by simp) fun o' ho' => sx_retPu (pu_local rfl hv) fun v hv => ⟨hv, o', ⟨t1, u, ho'⟩, ?_⟩
  simp [put]
/-- append_paragraph else -/
theorem s_app_none {x : Addr} {f : BS} {vs : List Value} (hz : vs.length ≤ 1000)
    (hl : lastV vs = .none ∨ ∃ t, lastV vs = .ref t ∧ (t == sysModules) = false) :
    FSpec prog w (.ref 107) [.ref x] 5 [] (fun h => (BSAt h x f ∧ h.IsList f.T vs.toArray) ∧ ∀ t, lastV vs = .ref t → ∃ ty tx, TokAt prog w h t ty tx ∧ ty ≠ sPar) (fun v _ => v = .none) := by
  refine' fspec_of_body (binds := [(Str.ofString "self", .ref x)]) ?ho ?hcd ?hbind ?hloc ?hb ?c2 ?c3 ?c4 ?c5
  walk_at "enter"
  rintro A g L hR hB ⟨⟨hx, hL⟩, hty⟩ _
  have hT : ∀ {n}, Kno g n (fun h => BSAt h x f ∧ h.IsList f.T vs.toArray) := (bs_kno hx).and (Kno.of hL fun h h' k b => b.at fun o e => k _ _ e)
  refine sx_letPu (P := (· = lastV vs)) (pu_m0 hB (hR.le (by decide)) (bs_kno hx) (m_last_token w) (fn_last_token w) (kp_last_token w) (by intros; rfl) (pu_local rfl rfl) (s_last_token (by rw [sizeLine_eq]; omega)) hT (fun v _ e => e)) fun v e => ?_
  subst e
  refine sx_skip ?_ (sx_retPu pu_none fun v e => e)
  rcases hl with hl | ⟨t, hl, hs⟩
  · exact pu_andF (pu_test (pu_local (P := (· = .none)) rfl hl) fun v e => by subst e; exact pu_tnone)
  · obtain ⟨ty, tx, ⟨ot, hot, t1, t2, hd⟩, hne⟩ := hty t hl
    have hD : ∀ {n}, Kno g n (fun h => h.DictOf (strKind prog w) t [(sType, .str ty t1), (sText, .str tx t2)]) := fun h q _ => Heap.dictOf_iff.mpr ⟨ot, q _ _ hot, hd⟩
    exact pu_andT (pu_test (pu_local (P := (· = .ref t)) rfl hl) fun v e => by subst e; exact t_dict hs hD (by simp))
      (pu_andF (pu_testCmp (pu_key hD rfl ⟨_, rfl⟩ (pu_local rfl hl) pu_str) pu_str fun a b ha hb => (c_eqS ha hb).to (by simpa using hne)))
end
end Mine
namespace Mine
/-- a set of the run: laid by the world's own rule -/
def ledOf (w : World) : Bool := !w.params.followText "set-order"
abbrev setOf (es : Array (Int × Value)) (k : Nat) (t : SetTable) : Obj := { cls := .type "set", dict := none, data := .set es k t }
abbrev t0 (led : Bool) : SetTable := .fresh 0 0 led

section
variable {prog : Program} {w : World} {A : Around} {E : Value → Shared → Prop} {s : Shared}
theorem lay1 (led : Bool) (i : Int) (hi : i = 0 ∨ i = 1) (u : Tok) : layNew (t0 led) #[] (hashInt i) (.int i u) = (#[(hashInt i, .int i u)], { mask := 7, place := #[i.toNat], dummies := #[], finger := 0, led := led, moves := 0, plain := true }, false, false) := by
  rcases hi with rfl | rfl <;> cases led <;> rfl
theorem lay2 (led : Bool) (u v : Tok) : layNew { mask := 7, place := #[1], dummies := #[], finger := 0, led := led, moves := 0, plain := true } #[(hashInt 1, .int 1 u)] (hashInt 4) (.int 4 v) =
    (#[(hashInt 1, .int 1 u), (hashInt 4, .int 4 v)], { mask := 7, place := #[1, 4], dummies := #[], finger := 0, led := led, moves := 0, plain := true }, false, false) := by
  cases led <;> rfl

theorem setAdd_exact {a : Addr} {es es' : Array (Int × Value)} {k : Nat} {t t' : SetTable} {i : Int} {u : Tok} {Q : Bool → Shared → Prop} (ho : s.heap.get? a = some (setOf es k t)) (hf : t.fits es.size = true)
    (hel : ElemsOf (intKind prog w) es.toList) (hb : es.size < scanBound) (hno : es.toList.findIdx? (fun e => (intKind prog w).is i e.2) = none)
    (hlay : layNew t es (hashInt i) (.int i u) = (es', t', false, false)) (hp : t'.plain = true) (hfull : t'.tooFull = false) (hb' : es'.size < scanBound)
    (h : Q true { s with heap := s.heap.update a (Obj.putSet es' t'), toks := s.toks + 1 }) : wpAny (model prog w) A (setAdd a (.int i u)) Q E s := by
  unfold setAdd
  refine wpAny_holding (wpAny_bind (wpAny_pyHash_int ?_))
  unfold setAddHashed setAddHashedIn
  refine wpAny_holding (wpAny_bind (wpAny_setState_of (s := { s with toks := s.toks + 1 }) ho rfl hf ?_))
  dsimp only
  rw [byScan_of (knd := intKind prog w) rfl hb hel]
  simp only [if_true]
  refine wpAny_bind ?_
  unfold setAddByScan
  refine wpAny_bind (wpAny_rule ?_)
  refine wpAny_bind (wpAny_setScan_of (knd := intKind prog w) (k := i) (intKind_is _ _ _ _) ho rfl hf hel ?_)
  rw [hno]
  dsimp only
  rw [hlay]
  dsimp only
  refine wpAny_bind (wpAny_pure ?_)
  rw [hp]
  simp only [if_true]
  refine wpAny_bind ?_
  rw [hashByValue_scannable 8 rfl]
  refine wpAny_pure ?_
  simp only [plainKind, if_true]
  refine wpAny_bind (wpAny_storeSet_of (s := { s with toks := s.toks + 1 }) ho rfl ?_ (by rw [sizeLine_eq]; unfold scanBound at hb'; omega))
  rw [hfull]
  simp only [Bool.not_false, Bool.and_false, Bool.false_eq_true, if_false]
  exact wpAny_pure (wpAny_pure h)

/-- the new set, its road said -/
theorem set_new_led (l : Value) {Q₁ : Value → Shared → Prop} (h : Q₁ (.ref s.heap.objs.size) { s with heap := s.heap.push (setOf #[] 0 (t0 (ledOf w))) }) :
    codeAny (model prog w) A (.call (.builtin "set.__new__") ⟨[.type "set", l], []⟩) (wants Q₁ E) s := by
  refine codeAny_call_builtin PySem.F.plain_set_new PySem.F.entry_set_new (wpAny_of_eq (PySem.F.newCall_set_1 l) ?_)
  have hsub := PySem.sub_set_self
  obtain ⟨hp, g, d, tk, os⟩ := s
  unfold Builtin.«set.__new__» Builtin.Frozenset.newClass
  dsimp only
  wp_walk
  refine wpAny_askSetting (wpAny_pure ?_)
  simp only [newObj]
  exact wpAny_bind (wpAny_alloc (wpAny_pure (wpAny_pure h)))

/-- the loop that fills a set from a list -/
theorem set_fill {a l I : Addr} {items : Array Value} {R : Result → Shared → Prop} {J : Nat → Obj → Prop}
    (step : ∀ (i : Nat) (v : Value) (o : Obj) (A : Around) (s : Shared) (Q : Bool → Shared → Prop) (E : Value → Shared → Prop) (a : Addr), items[i]? = some v → J i o → s.heap.get? a = some o →
      (∀ o' h' tk, h'.get? a = some o' → J (i + 1) o' → Heap.SameBut a s.heap h' → Q true { s with heap := h', toks := tk }) → wpAny (model prog w) A (setAdd a v) Q E s)
    (hh : A.handled = none) (hal : a ≠ l) (haI : a ≠ I) (hlI : l ≠ I) :
    ∀ (k i : Nat) (s : Shared) (o : Obj), items.size - i = k → i ≤ items.size → J i o → s.heap.get? a = some o → s.heap.IsList l items → s.heap.IsListIter I l i →
      (∀ h' tk o', J items.size o' → h'.get? a = some o' → (∀ b ob, b ≠ a → b ≠ I → s.heap.get? b = some ob → h'.get? b = some ob) → R (.ok (.ret .none)) { s with heap := h', toks := tk }) →
      codeAny (model prog w) A (.builtin "set.update.loop" ⟨[.ref a, .ref I], []⟩) R s := by
  intro k
  induction k with
  | zero =>
    intro i s o hk hi hJ ho hl hit hR
    obtain rfl : i = items.size := by omega
    refine codeAny_builtin PyProof.Rows.F.entry_set_update_loop ?_
    rw [Around.under_plainId PyProof.Rows.F.plain_set_update_loop _]
    show wpAny _ A.in1 (pyNext (.ref I) >>= _) _ _ s
    refine wpAny_bind (wpAny_pyNext_list_end (by exact hh) hit hl (by simp) fun h' hk' => ?_)
    exact wpAny_pure (hR h' s.toks o hJ (hk' _ _ haI ho) fun b ob h1 h2 e => hk' _ _ h2 e)
  | succ k ih =>
    intro i s o hk hi hJ ho hl hit hR
    have hlt : i < items.size := by omega
    refine codeAny_builtin PyProof.Rows.F.entry_set_update_loop ?_
    rw [Around.under_plainId PyProof.Rows.F.plain_set_update_loop _]
    show wpAny _ A.in1 (pyNext (.ref I) >>= _) _ _ s
    refine wpAny_bind (wpAny_pyNext_list_item hit hl (x := items[i]) (by simp [hlt]) fun h1 hit1 hs1 => ?_)
    show wpAny _ A.in1 (holding [items[i]] (setAdd a items[i]) >>= _) _ _ _
    refine wpAny_bind (wpAny_holding (step i items[i] o _ _ _ _ a (by simp [hlt]) hJ ((hs1.2 _ haI).trans ho) fun o' h2 tk2 ho' hJ' hs2 => ?_))
    refine wpAny_pure ⟨plainId_quiet PyProof.Rows.F.plain_set_update_loop _, ih (i + 1) _ o' (by omega) hlt hJ' ho' ?_ ?_ fun h3 tk3 o3 hJ3 ho3 hk3 => ?_⟩
    · exact (hl.at fun ob e => (hs1.2 _ hlI).trans e).at fun ob e => (hs2.2 _ (Ne.symm hal)).trans e
    · obtain ⟨oi, hoi, hr⟩ := hit1
      exact ⟨oi, (hs2.2 _ (Ne.symm haI)).trans hoi, hr⟩
    · exact hR h3 tk3 o3 hJ3 ho3 fun b ob n1 n2 e => hk3 b ob n1 n2 ((hs2.2 _ n1).trans ((hs1.2 _ n2).trans e))
theorem set_init_from {a l : Addr} {items : Array Value} {J : Nat → Obj → Prop} {led : Bool}
    (step : ∀ (i : Nat) (v : Value) (o : Obj) (A : Around) (s : Shared) (Q : Bool → Shared → Prop) (E : Value → Shared → Prop) (a : Addr), items[i]? = some v → J i o → s.heap.get? a = some o →
      (∀ o' h' tk, h'.get? a = some o' → J (i + 1) o' → Heap.SameBut a s.heap h' → Q true { s with heap := h', toks := tk }) → wpAny (model prog w) A (setAdd a v) Q E s)
    (hh : A.handled = none) (hal : a ≠ l) (hS : s.heap.get? a = some (setOf #[] 0 (t0 led))) (h0 : J 0 (setOf #[] 0 (t0 led))) (hl : s.heap.IsList l items) {QF : Fin → Shared → Prop}
    (h : ∀ h' tk o, J items.size o → h'.get? a = some o → (∀ b ob, b ≠ a → s.heap.get? b = some ob → h'.get? b = some ob) → QF (.done (.ret .none)) { s with heap := h', toks := tk }) :
    wpAny (model prog w) A (Builtin.«set.__init__» ⟨[.ref a, .ref l], []⟩) QF E s := by
  have hT : s.TypeIs (.ref a) "set" := ⟨_, hS, rfl⟩
  have hsls := PySem.F.sub_list_set
  have hslf := PySem.F.sub_list_frozenset
  have hne : (Value.type "list" == Value.type "dict") = false := by decide
  have hl' := hl
  obtain ⟨ol, hol, hcl, nl, hdl⟩ := hl
  obtain ⟨ocls, odict, odata, oslots⟩ := ol
  simp only at hcl hdl
  subst hcl; subst hdl
  have hla : l < s.heap.objs.size := Heap.lt_size hol
  have haa : a < s.heap.objs.size := Heap.lt_size hS
  unfold Builtin.«set.__init__» noKeywords Builtin.Frozenset.updateFrom
  generalize hPI : pyIter = PI
  wp_walk
  subst hPI
  refine wpAny_pyIter_list hl' ?_
  refine wpAny_bind (wpAny_runValue ?_)
  refine set_fill (a := a) (l := l) (I := s.heap.objs.size) (items := items) (J := J) step hh hal (Nat.ne_of_lt haa) (Nat.ne_of_lt hla) (items.size - 0) 0 _ _ rfl (Nat.zero_le _) h0 (Heap.get?_push_of_some _ hS) (hl'.push _) ⟨_, Heap.get?_push_size _ rfl, rfl, rfl⟩ fun h' tk o' hJ ho' hk => ?_
  exact wpAny_pure (wpAny_pure (h h' tk o' hJ ho' fun b ob n1 e => hk b ob n1 (Nat.ne_of_lt (Heap.lt_size e)) (Heap.get?_push_of_some _ e)))

set_option maxHeartbeats 3200000 in
/-- what the filling of a new set out of a list leaves -/
theorem set_from_list {l : Addr} {items : Array Value} {Q : Value → Shared → Prop} {J : Nat → Obj → Prop}
    (hh : A.handled = none) (hl : s.heap.IsList l items) (h0 : J 0 (setOf #[] 0 (t0 (ledOf w))))
    (step : ∀ (i : Nat) (v : Value) (o : Obj) (A : Around) (s : Shared) (Q : Bool → Shared → Prop) (E : Value → Shared → Prop) (a : Addr), items[i]? = some v → J i o → s.heap.get? a = some o →
      (∀ o' h' tk, h'.get? a = some o' → J (i + 1) o' → Heap.SameBut a s.heap h' → Q true { s with heap := h', toks := tk }) → wpAny (model prog w) A (setAdd a v) Q E s)
    (h : ∀ h' tk o, J items.size o → h'.get? s.heap.objs.size = some o → (∀ b o, s.heap.get? b = some o → h'.get? b = some o) → Q (.ref s.heap.objs.size) { s with heap := h', toks := tk }) :
    wpAny (model prog w) A (call (.type "set") [.ref l]) Q E s := by
  obtain ⟨c, tl, hmro⟩ := PySem.F.called_set.mro
  have hmade := PySem.F.called_set.made
  have hsub := PySem.F.called_set.sub
  refine wpAny_call (codeAny_of_tree ?_)
  show wpAny _ _ (callAny (.type "set") _) _ _ _
  refine wpAny_pure ⟨Code.quiet_builtin _ (by decide +kernel), codeAny_builtin PySem.F.entry_type_call ?_⟩
  rw [Around.under_plain (PySem.weight_type_call_type "set" [.ref l] []) rfl]
  have h1 := PySem.F.called_set.notType
  have h2 := PySem.F.called_set.canCreate
  have hct := PySem.F.typeCall_set_1 (.ref l)
  repeat (any_goals (first | assumption | wp_step))
  refine codeAny_mono (set_new_led (.ref l) (E := E) (Q₁ := fun obj s₁ => obj = .ref s.heap.objs.size ∧ s₁ = { s with heap := s.heap.push (setOf #[] 0 (t0 (ledOf w))) }) ⟨rfl, rfl⟩) fun r s₁ hr => ?_
  cases r with
  | error e => exact hr
  | ok fl =>
    cases fl with
    | ret obj =>
      obtain ⟨rfl, rfl⟩ := hr
      have hS : (s.heap.push (setOf #[] 0 (t0 (ledOf w)))).get? s.heap.objs.size = some (setOf #[] 0 (t0 (ledOf w))) := Heap.get?_push_size _ rfl
      have hT : Shared.TypeIs { s with heap := s.heap.push (setOf #[] 0 (t0 (ledOf w))) } (.ref s.heap.objs.size) "set" := ⟨_, hS, rfl⟩
      have hli := PySem.F.called_set.init.lookup
      have hbi := PySem.F.called_set.init.bind (.ref s.heap.objs.size)
      repeat (any_goals (first | assumption | wp_step))
      refine codeAny_mono (codeAny_call_builtin (R := wants (fun r s₂ => r = .none ∧ ∃ h' tk o, s₂ = { s with heap := h', toks := tk } ∧ J items.size o ∧ h'.get? s.heap.objs.size = some o ∧ (∀ b o, s.heap.get? b = some o → h'.get? b = some o)) E)
        PySem.F.called_set.init.plain PySem.F.entry_set_init (PySem.check_set_init_1 hT ?_)) fun r₂ s₂ hr₂ => ?_
      · have hlS : l < s.heap.objs.size := by obtain ⟨ol, hol, _⟩ := hl; exact Heap.lt_size hol
        refine set_init_from (J := J) step (by exact hh) (Nat.ne_of_gt hlS) hS h0 (hl.push _) fun h' tk o hJ ho hk => ?_
        exact ⟨rfl, h', tk, o, rfl, hJ, ho, fun b ob e => hk b ob (Nat.ne_of_lt (Heap.lt_size e)) (Heap.get?_push_of_some _ e)⟩
      · cases r₂ with
        | error e => exact hr₂
        | ok fl₂ =>
          cases fl₂ with
          | ret r =>
            obtain ⟨rfl, h', tk, o, rfl, hJ, ho, hk⟩ := hr₂
            repeat (any_goals (first | assumption | wp_step))
            exact h _ _ o hJ ho hk
          | _ => exact hr₂.elim
    | _ => exact hr.elim
end
end Mine
namespace Mine
section
theorem e_set_iter : entryFor table "set.__iter__" = some Builtin.«frozenset.__iter__» :=
  entryFor_alias (id' := "frozenset.__iter__") (by kernel_rfl) rfl (by decide +kernel) (by kernel_rfl)
theorem slot_si_next : Slot "set_iterator" "__next__" "set_iterator.__next__" :=
  .of (owner := "set_iterator") (n := "__next__") (by rw [typeLookup_type, builtinLookup_eq_fast]; kernel_rfl) (by decide +kernel) (by decide +kernel) (by decide +kernel)
    (by first | exact .inl (by decide +kernel) | exact .inr (by decide +kernel)) (by rw [isSubtype_type]; kernel_rfl)
theorem e_si_next : entryFor table "set_iterator.__next__" = some Builtin.«set_iterator.__next__» := entryFor_of_tree (by kernel_rfl)
theorem args_si_next (a : Value) : argsOk "set_iterator.__next__" ⟨[a], []⟩ := by unfold argsOk; kernel_rfl
theorem si_no_len : typeLookup (.type "set_iterator") "__len__" = pure none := by rw [typeLookup_type, builtinLookup_eq_fast]; kernel_rfl
theorem si_hint : typeLookup (.type "set_iterator") "__length_hint__" = pure (some (.builtin "set_iterator.__length_hint__")) := by rw [typeLookup_type, builtinLookup_eq_fast]; kernel_rfl
theorem si_sub : isSubtype (.type "set_iterator") (.type "set_iterator") = pure true := by rw [isSubtype_type]; kernel_rfl
end
/-- the slot behind the i-th place -/
def slotAt (p : Array Nat) : Nat → Nat
  | 0 => 0
  | i + 1 => (p[i]?.getD 0) + 1
/-- a set of ints of the run -/
def IsSet (w : World) (l : List Int) (o : Obj) : Prop := ∃ es k t, o = setOf es k t ∧ t.fits es.size = true ∧ t.plain = true ∧ (t.led = ledOf w ∨ es = #[]) ∧ IntsAre (es.toList.map (·.2)) l ∧
  (∀ i, i ≤ es.size → SetTable.below t.place (slotAt t.place i) = i) ∧ l.length < 60
/-- a walk over a set -/
def IsSetIter (h : Heap) (it a : Addr) (slot i size ep : Nat) : Prop := ∃ o, h.get? it = some o ∧ o.cls = .type "set_iterator" ∧ o.data = .fields #[.int slot 0, .int i 0, .ref a, .int size 0, .int ep 0]
/-- the order of the walk -/
def ordOf (w : World) (a : Addr) (es : Array (Int × Value)) (k : Nat) : Array (Int × Value) := if ledOf w then es else pickOrder (w.params.setOrder a k) es

section
variable {prog : Program} {w : World} {A : Around} {E : Value → Shared → Prop} {s : Shared}
theorem byText (A : Around) {Q : Bool → Shared → Prop} (h : Q (!ledOf w) s) : wpAny (model prog w) A setsByText Q E s := by
  unfold setsByText
  refine wpAny_bind (wpAny_askSetting (wpAny_pure ?_))
  show Q (w.params.followText "set-order") s
  unfold ledOf at h
  rw [Bool.not_not] at h
  exact h
theorem drawn_no {a : Addr} {es : Array (Int × Value)} {k : Nat} {t : SetTable} {Q : Bool → Shared → Prop} (ho : s.heap.get? a = some (setOf es k t)) (hf : t.fits es.size = true) (hp : t.plain = true) (h : Q false s) :
    wpAny (model prog w) A (setDrawn a) Q E s := by
  unfold setDrawn
  refine wpAny_bind (wpAny_setState_of ho rfl hf ?_)
  refine wpAny_bind (byText A ?_)
  show wpAny _ _ (pure (!(!ledOf w) && (!t.plain && decide (es.size > 1)))) _ _ _
  rw [hp]
  simp only [Bool.not_true, Bool.false_and, Bool.and_false]
  exact wpAny_pure h
theorem iter_set {a : Addr} {es : Array (Int × Value)} {k : Nat} {t : SetTable} {Q : Value → Shared → Prop} (ho : s.heap.get? a = some (setOf es k t)) (hf : t.fits es.size = true) (hp : t.plain = true)
    (h : Q (.ref s.heap.objs.size) { s with heap := s.heap.push { cls := .type "set_iterator", data := .fields #[.int 0 0, .int 0 0, .ref a, .int es.size 0, .int k 0] } }) :
    wpAny (model prog w) A (pyIter (.ref a)) Q E s := by
  have hT : s.TypeIs (.ref a) "set" := ⟨_, ho, rfl⟩
  refine wpAny_pyIter_slot hT PySem.F.slot_set_iter (wpAny_call_entry PySem.F.slot_set_iter hT e_set_iter ?_ (PySem.F.args_set_iter_1 _))
  unfold Builtin.«frozenset.__iter__» Builtin.Frozenset.slot0 slotArgs
  simp only [List.isEmpty_nil, Bool.not_true, Bool.false_eq_true, if_false, bind_assoc, List.length_nil, bne_self_eq_false]
  unfold Builtin.Frozenset.addrOf Builtin.Frozenset.sizeOf
  refine wpAny_bind (wpAny_pure ?_)
  dsimp only
  refine wpAny_bind (wpAny_pure ?_)
  refine wpAny_bind (wpAny_bind (wpAny_setEntries_of ho rfl hf (wpAny_pure ?_)))
  refine wpAny_bind (drawn_no ho hf hp ?_)
  simp only [Bool.false_eq_true, if_false]
  refine wpAny_bind (wpAny_pure ?_)
  refine wpAny_bind (wpAny_setEpoch_of ho rfl hf ?_)
  refine wpAny_bind (m := newFields "set_iterator" _) ?_
  unfold newFields
  refine wpAny_newObj_type (wpAny_pure ⟨_, rfl, "set_iterator", _, ⟨_, Heap.get?_push_size _ rfl, rfl⟩, slot_si_next.lookup, ?_⟩) (by size_fits)
  exact h

theorem getElem_cons_perm {α : Type} : ∀ (l : List α) (i : Nat) (h : i < l.length), (l[i] :: l.eraseIdx i).Perm l
  | x :: r, 0, _ => by simp
  | x :: r, i + 1, h => by
    simp only [List.getElem_cons_succ, List.eraseIdx_cons_succ]
    exact (List.Perm.swap _ _ _).trans ((getElem_cons_perm r i (by simpa using h)).cons x)
theorem pick_perm {α : Type} (next : Nat → Nat) : ∀ (fuel k : Nat) (left : List α) (out : Array α), left.length ≤ fuel → (pickOrder.go next fuel k left out).toList.Perm (out.toList ++ left)
  | 0, k, left, out, h => by
    have e : left = [] := List.eq_nil_of_length_eq_zero (by omega)
    subst e; simp [pickOrder.go]
  | fuel + 1, k, left, out, h => by
    unfold pickOrder.go
    cases left with
    | nil => simp
    | cons y r =>
      have hlt : next k % (y :: r).length < (y :: r).length := Nat.mod_lt _ (by simp)
      rw [List.getElem?_eq_getElem hlt]
      dsimp only
      refine (pick_perm next fuel (k + 1) _ _ (by rw [List.length_eraseIdx_of_lt hlt]; omega)).trans ?_
      rw [Array.toList_push, List.append_assoc]
      exact List.Perm.append_left _ (getElem_cons_perm _ _ hlt)
theorem ord_perm (w : World) (a : Addr) (es : Array (Int × Value)) (k : Nat) : (ordOf w a es k).toList.Perm es.toList := by
  unfold ordOf
  split
  · exact List.Perm.refl _
  · unfold pickOrder
    simpa using pick_perm (w.params.setOrder a k) es.size 0 es.toList #[] (by simp)
theorem ord_size (w : World) (a : Addr) (es : Array (Int × Value)) (k : Nat) : (ordOf w a es k).size = es.size := by
  have := (ord_perm w a es k).length_eq
  simpa using this
theorem setNext_at {a : Addr} {es : Array (Int × Value)} {k : Nat} {t : SetTable} {i : Nat} {Q : Option (Value × Nat) → Shared → Prop} (ho : s.heap.get? a = some (setOf es k t)) (hf : t.fits es.size = true) (hp : t.plain = true) (hl : t.led = ledOf w ∨ es = #[])
    (hw : ∀ i, i ≤ es.size → SetTable.below t.place (slotAt t.place i) = i) (slot : Nat) (hslot : ledOf w = true → slot = slotAt t.place i) (hi : i ≤ es.size)
    (h1 : ∀ v slot', (ordOf w a es k)[i]?.map (·.2) = some v → (ledOf w = true → slot' = slotAt t.place (i + 1)) → Q (some (v, slot')) s) (h2 : i = es.size → Q none s) :
    wpAny (model prog w) A (setNext a slot i k) Q E s := by
  have hps : t.place.size = es.size := by
    simp only [SetTable.fits, Bool.and_eq_true, beq_iff_eq] at hf; exact hf.1
  unfold setNext
  refine wpAny_bind (wpAny_setState_of ho rfl hf ?_)
  refine wpAny_bind (byText A ?_)
  cases hled : ledOf w with
  | false =>
    simp only [Bool.not_false, if_true, bne_self_eq_false, Bool.false_eq_true, if_false]
    refine wpAny_bind ?_
    unfold setWalk
    refine wpAny_bind (wpAny_setState_of ho rfl hf ?_)
    refine wpAny_bind (byText A ?_)
    rw [hled]
    simp only [Bool.not_false, if_true]
    refine wpAny_bind (wpAny_askSetting (wpAny_pure ?_))
    have e : ordOf w a es k = pickOrder (w.params.setOrder a k) es := by unfold ordOf; rw [hled]; simp
    rw [hled, e] at h1
    have hs := ord_size w a es k
    rw [e] at hs
    refine wpAny_pure ?_
    show Q ((pickOrder (w.params.setOrder a k) es)[i]?.map fun e => (e.2, slot)) s
    by_cases hlt : i < es.size
    · rw [Array.getElem?_eq_getElem (by rw [hs]; exact hlt)]
      exact h1 _ slot (by rw [Array.getElem?_eq_getElem (by rw [hs]; exact hlt)]; rfl) (fun q => by cases q)
    · rw [Array.getElem?_eq_none (by rw [hs]; omega)]
      exact h2 (by omega)
  | true =>
    have e : ordOf w a es k = es := by unfold ordOf; rw [hled]; simp
    rw [hled, e] at h1
    have hsl := hslot hled
    subst hsl
    simp only [Bool.not_true, Bool.false_eq_true, if_false]
    show wpAny _ _ (if (!t.plain && decide (es.size > 1)) = true then _ else _) _ _ _
    rw [hp]
    simp only [Bool.not_true, Bool.false_and, Bool.false_eq_true, if_false]
    refine wpAny_bind ?_
    have hm : (!t.led && !es.isEmpty) = false := by
      rcases hl with hl | hl
      · rw [hl, hled]; rfl
      · subst hl; simp
    show wpAny _ _ (if (!t.led && !es.isEmpty) = true then _ else _) _ _ _
    rw [hm]
    simp only [Bool.false_eq_true, if_false]
    refine wpAny_pure ?_
    refine wpAny_pure ?_
    rw [hw i hi]
    by_cases hlt : i < es.size
    · rw [Array.getElem?_eq_getElem hlt, Array.getElem?_eq_getElem (show i < t.place.size by rw [hps]; exact hlt)]
      exact h1 _ _ (by rw [Array.getElem?_eq_getElem hlt]; rfl) (fun _ => by simp only [slotAt]; rw [Array.getElem?_eq_getElem (show i < t.place.size by rw [hps]; exact hlt)]; rfl)
    · rw [Array.getElem?_eq_none (show es.size ≤ i by omega)]
      exact h2 (by omega)
theorem IsSetIter.typeIs {it a : Addr} {slot i size ep : Nat} (x : IsSetIter s.heap it a slot i size ep) : s.TypeIs (.ref it) "set_iterator" := let ⟨o, ho, hc, _⟩ := x; ⟨o, ho, hc⟩
theorem next_set {it a : Addr} {es : Array (Int × Value)} {k : Nat} {t : SetTable} {i : Nat} {v : Value} {Q : Option Value → Shared → Prop} (ho : s.heap.get? a = some (setOf es k t)) (hf : t.fits es.size = true) (hp : t.plain = true) (hl : t.led = ledOf w ∨ es = #[])
    (hw : ∀ i, i ≤ es.size → SetTable.below t.place (slotAt t.place i) = i) (slot : Nat) (hslot : ledOf w = true → slot = slotAt t.place i) (hit : IsSetIter s.heap it a slot i es.size k) (hi : i < es.size) (hv : (ordOf w a es k)[i]?.map (·.2) = some v)
    (hQ : ∀ h' slot', (ledOf w = true → slot' = slotAt t.place (i + 1)) → IsSetIter h' it a slot' (i + 1) es.size k → Heap.SameBut it s.heap h' → Q (some v) { s with heap := h' }) :
    wpAny (model prog w) A (pyNext (.ref it)) Q E s := by
  obtain ⟨oi, hoi, hci, hdi⟩ := id hit
  unfold pyNext
  refine wpAny_bind (wpAny_attempt (wpAny_callSpecial?_slot (name := Str.ofString "__next__") hit.typeIs slot_si_next
    (wpAny_call_entry slot_si_next hit.typeIs e_si_next ?_ (args_si_next _))))
  unfold Builtin.«set_iterator.__next__» slotArgs
  simp only [List.isEmpty_nil, Bool.not_true, Bool.false_eq_true, if_false, bind_assoc, List.length_nil, bne_self_eq_false]
  refine wpAny_bind (wpAny_pure ?_)
  refine wpAny_bind (wpAny_fieldsOf hoi hdi ?_)
  dsimp only
  refine wpAny_bind (wpAny_setEntries_of ho rfl hf ?_)
  rw [if_neg (by simp)]
  try dsimp only
  simp only [Int.toNat_natCast]
  refine wpAny_bind (setNext_at ho hf hp hl hw slot hslot (Nat.le_of_lt hi) (fun v' slot' hv' hs' => ?_) fun e => by omega)
  obtain rfl : v' = v := by rw [hv] at hv'; exact (Option.some.inj hv').symm
  dsimp only
  refine wpAny_bind (wpAny_setField hoi hdi (by simp) ?_)
  have d1 := Obj.data_mapFields hdi (·.setIfInBounds 0 (rawInt (slot' : Int)))
  have g1 := Heap.get?_update_self (Obj.mapFields (·.setIfInBounds 0 (rawInt (slot' : Int)))) hoi (Obj.isFreed_of_fields d1)
  refine wpAny_bind (wpAny_setField (s := { s with heap := s.heap.update it (Obj.mapFields (·.setIfInBounds 0 (rawInt (slot' : Int)))) }) g1 d1 (by simp) ?_)
  have d2 := Obj.data_mapFields d1 (·.setIfInBounds 1 (rawInt ((i : Int) + 1)))
  have g2 := Heap.get?_update_self (Obj.mapFields (·.setIfInBounds 1 (rawInt ((i : Int) + 1)))) g1 (Obj.isFreed_of_fields d2)
  exact wpAny_pure ⟨_, rfl, wpAny_pure (hQ _ slot' hs' ⟨_, g2, (Obj.cls_mapFields ..).trans ((Obj.cls_mapFields ..).trans hci), d2.trans (by simp [rawInt])⟩ ((Heap.SameBut.update ..).trans (Heap.SameBut.update ..)))⟩
theorem done_set {it a : Addr} {es : Array (Int × Value)} {k : Nat} {t : SetTable} {Q : Option Value → Shared → Prop} (hh : A.handled = none) (ho : s.heap.get? a = some (setOf es k t)) (hf : t.fits es.size = true) (hp : t.plain = true) (hl : t.led = ledOf w ∨ es = #[])
    (hw : ∀ i, i ≤ es.size → SetTable.below t.place (slotAt t.place i) = i) (slot : Nat) (hslot : ledOf w = true → slot = slotAt t.place es.size) (hit : IsSetIter s.heap it a slot es.size es.size k)
    (hQ : ∀ h', Heap.ExtBut it s.heap h' → Q none { s with heap := h' }) :
    wpAny (model prog w) A (pyNext (.ref it)) Q E s := by
  obtain ⟨oi, hoi, hci, hdi⟩ := id hit
  unfold pyNext
  refine wpAny_bind (wpAny_attempt (wpAny_callSpecial?_slot (name := Str.ofString "__next__") hit.typeIs slot_si_next
    (wpAny_call_entry slot_si_next hit.typeIs e_si_next ?_ (args_si_next _))))
  unfold Builtin.«set_iterator.__next__» slotArgs
  simp only [List.isEmpty_nil, Bool.not_true, Bool.false_eq_true, if_false, bind_assoc, List.length_nil, bne_self_eq_false]
  refine wpAny_bind (wpAny_pure ?_)
  refine wpAny_bind (wpAny_fieldsOf hoi hdi ?_)
  dsimp only
  refine wpAny_bind (wpAny_setEntries_of ho rfl hf ?_)
  rw [if_neg (by simp)]
  try dsimp only
  simp only [Int.toNat_natCast]
  have hos := ord_size w a es k
  refine wpAny_bind (setNext_at ho hf hp hl hw slot hslot (Nat.le_refl _) (fun v' slot' hv' hs' => ?_) fun e => ?_)
  · rw [Array.getElem?_eq_none (by rw [hos]; exact Nat.le_refl _)] at hv'; cases hv'
  dsimp only
  refine wpAny_bind (wpAny_setField hoi hdi (by simp) ?_)
  refine wpAny_bind ?_
  simp only [newExc, newTuple]
  refine wpAny_bind (wpAny_newObj_type ?_ (by size_fits))
  refine wpAny_bind (m := firstArgMember _ _) (wpAny_of_eq (a := Value.none) (by first | rfl | (simp only [firstArgMember]; rfl)) ?_)
  refine wpAny_newObj_type ?_ (by size_fits)
  simp only [raiseNew]
  refine wpAny_bind (wpAny_handled ?_)
  rw [show A.in1.handled = none from hh]
  refine wpAny_bind (wpAny_pure (wpAny_throw ?_))
  refine wpAny_bind (wpAny_isInstance (T := "StopIteration") (b := true) ⟨_, Heap.get?_push_size _ rfl, rfl⟩ isSubtype_stop ?_)
  exact wpAny_pure (hQ _ (((Heap.SameBut.update ..).extBut.push _).push _))
end
end Mine
namespace Mine
abbrev newL : Obj := { cls := .type "list", data := .seq ([] : List Value).toArray }
abbrev newI (a : Addr) (es : Array (Int × Value)) (ke : Nat) : Obj := { cls := .type "set_iterator", data := .fields #[.int 0 0, .int 0 0, .ref a, .int es.size 0, .int ke 0] }
theorem split_len : splitId "set.__len__" = some ("set", "__len__") := by kernel_rfl
section
variable {prog : Program} {w : World} {A : Around} {E : Value → Shared → Prop} {s : Shared}
theorem hint_set {a : Addr} {Q : Bool → Shared → Prop} (hT : s.TypeIs (.ref a) "set") (h : Q false s) : wpAny (model prog w) A (Builtin.List.listLengthHint (.ref a)) Q E s := by
  unfold Builtin.List.listLengthHint
  refine wpAny_bind (wpAny_specialOf hT PySem.F.slot_set_len.lookup ?_)
  dsimp only
  rw [split_len]
  dsimp only
  refine wpAny_bind (wpAny_isInstance hT PySem.sub_set_self ?_)
  rw [if_neg (by decide)]
  rw [if_pos (by decide +kernel)]
  refine wpAny_bind (wpAny_typeOf hT ?_)
  exact wpAny_pure h

/-- the loop that lays a set's items into a list -/
theorem set_lay {a S I : Addr} {es : Array (Int × Value)} {ke : Nat} {t : SetTable} {R : Result → Shared → Prop} {res : Value}
    (hf : t.fits es.size = true) (hp : t.plain = true) (hl : t.led = ledOf w ∨ es = #[]) (hw : ∀ i, i ≤ es.size → SetTable.below t.place (slotAt t.place i) = i)
    (hh : A.handled = none) (haS : a ≠ S) (haI : a ≠ I) (hSI : S ≠ I) (hz : es.size ≤ 1000) :
    ∀ (k i slot : Nat) (s : Shared) (acc : Array Value) (c : Nat), es.size - i = k → i ≤ es.size → (ledOf w = true → slot = slotAt t.place i) → s.heap.get? a = some (setOf es ke t) → s.heap.get? S = some (listOf acc c) → acc.toList = (((ordOf w a es ke).toList.map (·.2)).take i) → IsSetIter s.heap I a slot i es.size ke →
      (∀ h' tk acc' c', acc'.toList = (ordOf w a es ke).toList.map (·.2) → h'.get? S = some (listOf acc' c') → (∀ b ob, b ≠ S → b ≠ I → s.heap.get? b = some ob → h'.get? b = some ob) → R (.ok (.ret res)) { s with heap := h', toks := tk }) →
      codeAny (model prog w) A (.builtin "list.extend.loop" ⟨[.ref S, .ref I, res], []⟩) R s := by
  have hos := ord_size w a es ke
  intro k
  induction k with
  | zero =>
    intro i slot s acc c hk hi hslot ho hS hacc hit hR
    obtain rfl : i = es.size := by omega
    refine codeAny_builtin PySem.F.entry_extend_loop ?_
    rw [Around.under_plainId PySem.F.plain_extend_loop _]
    show wpAny _ A.in1 (pyNext (.ref I) >>= _) _ _ s
    refine wpAny_bind (done_set (by exact hh) ho hf hp hl hw slot hslot hit fun h' hk' => ?_)
    refine wpAny_pure (hR h' s.toks acc c ?_ (hk' _ _ hSI hS) fun b ob h1 h2 e => hk' _ _ h2 e)
    rw [hacc, List.take_of_length_le (by simp [hos])]
  | succ k ih =>
    intro i slot s acc c hk hi hslot ho hS hacc hit hR
    have hlt : i < es.size := by omega
    have hlt' : i < (ordOf w a es ke).size := by rw [hos]; exact hlt
    refine codeAny_builtin PySem.F.entry_extend_loop ?_
    rw [Around.under_plainId PySem.F.plain_extend_loop _]
    show wpAny _ A.in1 (pyNext (.ref I) >>= _) _ _ s
    refine wpAny_bind (next_set ho hf hp hl hw slot hslot hit hlt (v := ((ordOf w a es ke)[i]).2) (by rw [Array.getElem?_eq_getElem hlt']; rfl) fun h1 slot1 hs1 hit1 hsb1 => ?_)
    have hS1 : h1.get? S = some (listOf acc c) := (hsb1.2 _ hSI).trans hS
    have hal : acc.size ≤ i := by
      have := congrArg List.length hacc
      rw [List.length_take] at this
      simp only [Array.length_toList] at this
      omega
    show wpAny _ A.in1 (updateSeq S (·.push ((ordOf w a es ke)[i]).2) >>= _) _ _ _
    refine wpAny_bind ?_
    refine wpAny_updateSeq (s := { s with heap := h1 }) hS1 rfl (wpAny_pure ⟨plainId_quiet PySem.F.plain_extend_loop _, ih (i + 1) slot1 _ (acc.push ((ordOf w a es ke)[i]).2) _ (by omega) hlt hs1 ?_ (Heap.get?_update_self _ hS1 rfl) ?_ ?_ fun h3 tk3 acc3 c3 ha3 hS3 hk3 => ?_⟩)
      (by rw [sizeLine_eq]; omega) (by show (acc.push _).size ≤ sizeLine + 1; rw [Array.size_push, sizeLine_eq]; omega)
    · exact (Heap.get?_update_other _ _ (Ne.symm haS)).trans ((hsb1.2 _ haI).trans ho)
    · rw [Array.toList_push, hacc, List.take_add_one, List.getElem?_map, Array.getElem?_toList, Array.getElem?_eq_getElem hlt']
      rfl
    · obtain ⟨oi, hoi, hr⟩ := hit1
      exact ⟨oi, (Heap.get?_update_other _ _ hSI).trans hoi, hr⟩
    · exact hR h3 tk3 acc3 c3 ha3 hS3 fun b ob n1 n2 e => hk3 b ob n1 n2 ((Heap.get?_update_other _ _ (Ne.symm n1)).trans ((hsb1.2 _ n2).trans e))

set_option maxHeartbeats 3200000 in
theorem collect_set {a : Addr} {es : Array (Int × Value)} {ke : Nat} {t : SetTable} {Q : List Value → Shared → Prop}
    (hf : t.fits es.size = true) (hp : t.plain = true) (hl : t.led = ledOf w ∨ es = #[]) (hw : ∀ i, i ≤ es.size → SetTable.below t.place (slotAt t.place i) = i)
    (hh : A.handled = none) (hz : es.size ≤ 1000) (ho : s.heap.get? a = some (setOf es ke t))
    (h : ∀ h' tk, (∀ b ob, s.heap.get? b = some ob → h'.get? b = some ob) → Q ((ordOf w a es ke).toList.map (·.2)) { s with heap := h', toks := tk }) :
    wpAny (model prog w) A (collect (.ref a)) Q E s := by
  have haa : a < s.heap.objs.size := Heap.lt_size ho
  unfold collect
  refine wpAny_bind (wpAny_runValue (codeAny_builtin PySem.F.entry_proto_collect ?_))
  rw [Around.under_plainId PySem.F.plain_proto_collect _]
  show wpAny _ A.in1 (newList [] >>= fun l => again (.builtin "list.__iadd__" ⟨[l, .ref a], []⟩)) _ _ s
  refine wpAny_bind (wpAny_newObj_type ?_)
  refine wpAny_pure ⟨plainId_quiet PySem.F.plain_list_iadd _, codeAny_builtin PySem.F.entry_list_iadd ?_⟩
  rw [Around.under_plainId PySem.F.plain_list_iadd _]
  have ho1 : (s.heap.push newL).get? a = some (setOf es ke t) := Heap.get?_push_of_some _ ho
  show wpAny _ A.in1 (Builtin.List.listExtendWith (.ref s.heap.objs.size) (.ref a) (.ref s.heap.objs.size)) _ _ _
  unfold Builtin.List.listExtendWith
  refine wpAny_bind (wpAny_typeOf (T := "set") ⟨_, ho1, rfl⟩ ?_)
  have hne : Builtin.List.listSameRef (.ref s.heap.objs.size) (.ref a) = false := by
    unfold Builtin.List.listSameRef
    simpa using (Nat.ne_of_gt haa)
  rw [hne]
  rw [if_neg (by decide)]
  refine wpAny_bind (iter_set ho1 hf hp ?_)
  refine wpAny_bind (wpAny_holding (hint_set ⟨_, Heap.get?_push_of_some _ ho1, rfl⟩ ?_))
  split
  · refine wpAny_bind (wpAny_rule ?_)
    have g0 : ((s.heap.push newL).push (newI a es ke)).get? s.heap.objs.size = some newL := Heap.get?_push_of_some _ (Heap.get?_push_size _ rfl)
    have gi : ((s.heap.push newL).push (newI a es ke)).get? (s.heap.objs.size + 1) = some (newI a es ke) := by
      have := Heap.get?_push_size (s.heap.push newL) (o := newI a es ke) rfl
      rw [Heap.size_push] at this
      exact this
    have g1 : ((s.heap.push newL).push (newI a es ke)).get? a = some (setOf es ke t) := Heap.get?_push_of_some _ ho1
    have n1 : s.heap.objs.size + 1 ≠ s.heap.objs.size := by exact Nat.ne_of_gt (Nat.lt_succ_self _)
    have n2 : a ≠ s.heap.objs.size := Nat.ne_of_lt haa
    have n3 : a ≠ s.heap.objs.size + 1 := Nat.ne_of_lt (Nat.lt_succ_of_lt haa)
    show wpAny _ A.in1 ((updateSeq s.heap.objs.size (·.push .none) >>= fun _ => updateSeq s.heap.objs.size (·.pop)) >>= _) _ _ _
    refine wpAny_bind (wpAny_bind (wpAny_updateSeq g0 rfl ?_ (by decide) (by show _ ≤ sizeLine + 1; rw [sizeLine_eq]; decide)))
    have g2 := Heap.get?_update_self (Obj.mapSeq (·.push Value.none)) g0 rfl
    refine wpAny_updateSeq g2 rfl ?_ (by rw [sizeLine_eq]; decide) (by rw [sizeLine_eq]; decide)
    have g3 := Heap.get?_update_self (Obj.mapSeq (·.pop)) g2 rfl
    refine wpAny_pure ⟨plainId_quiet PySem.F.plain_extend_loop _, set_lay (a := a) (S := s.heap.objs.size) (I := (s.heap.push newL).objs.size) (es := es) (ke := ke) (t := t) hf hp hl hw (by exact hh) n2 (by rw [Heap.size_push]; exact n3) (by rw [Heap.size_push]; exact Nat.ne_of_lt (Nat.lt_succ_self _)) hz es.size 0 0 _ #[] 2 rfl (Nat.zero_le _) (fun _ => rfl) ?_ ?_ rfl ?_ fun h' tk acc c ha hS hk => ?_⟩
    · exact (Heap.get?_update_other _ _ (Ne.symm n2)).trans ((Heap.get?_update_other _ _ (Ne.symm n2)).trans g1)
    · exact g3.trans (congrArg some rfl)
    · show IsSetIter (((s.heap.push newL).push (newI a es ke)).update _ _ |>.update _ _) _ _ _ _ _ _
      rw [Heap.size_push]
      exact ⟨_, (Heap.get?_update_other _ _ (Ne.symm n1)).trans ((Heap.get?_update_other _ _ (Ne.symm n1)).trans gi), rfl, rfl⟩
    · show wpAny _ _ (load s.heap.objs.size >>= _) _ _ _
      refine wpAny_bind (wpAny_load hS ?_)
      dsimp only
      rw [ha]
      refine wpAny_pure (h h' tk fun b ob e => hk b ob (Nat.ne_of_lt (Heap.lt_size e)) ?_ ?_)
      · rw [Heap.size_push]; exact Nat.ne_of_lt (Nat.lt_succ_of_lt (Heap.lt_size e))
      · have m1 := Nat.ne_of_lt (Heap.lt_size e)
        exact (Heap.get?_update_other _ _ (Ne.symm m1)).trans ((Heap.get?_update_other _ _ (Ne.symm m1)).trans (Heap.get?_push_of_some _ (Heap.get?_push_of_some _ e)))
  · rename_i hn
    exact (hn (by decide +kernel)).elim
end
end Mine
namespace Mine
theorem noBool_set : typeLookup (.type "set") "__bool__" = pure none := by rw [typeLookup_type, builtinLookup_eq_fast]; kernel_rfl
section
variable {prog : Program} {w : World} {A : Around} {g : Heap} {L : Addr} {m : Str → Option Value} {n : Led} {s : Shared}
theorem news_keep {h h' : Heap} (N : News g L h n) (hk : ∀ b o, h.get? b = some o → h'.get? b = some o) : News g L h' n := fun p hp => ⟨hk _ _ (N p hp).1, (N p hp).2⟩
theorem news_new {h h' : Heap} {a : Addr} {o : Obj} (F : Fr g L h m) (N : News g L h n) (hk : ∀ b o, h.get? b = some o → h'.get? b = some o) (ha : h.get? a = none) (hL : L < a) (ho : h'.get? a = some o) : News g L h' ((a, o) :: n) := fun p hp => by
  rcases List.mem_cons.mp hp with rfl | hp
  · refine ⟨ho, Nat.ne_of_gt hL, ?_⟩
    cases hx : g.get? a with
    | none => rfl
    | some o' => rw [F.keep _ _ hx] at ha; cases ha
  · exact news_keep N hk p hp
theorem New.of_none {h : Heap} {a : Addr} (B : Bas w g) (F : Fr g L h m) (N : News g L h n) (ha : h.get? a = none) (hL : L < a) : New n a := by
  refine ⟨fun hm => ?_, ?_⟩
  · obtain ⟨q, hq, e⟩ := List.mem_map.mp hm
    have := (N q hq).1
    rw [e, ha] at this
    cases this
  · have h1 := modules_low B.lim
    have h2 : sysModules < a := Nat.lt_of_lt_of_le (Nat.lt_of_lt_of_le h1 F.above) (Nat.le_of_lt hL)
    simpa using Nat.ne_of_gt h2
theorem size_none (h : Heap) : h.get? h.objs.size = none := by
  cases hx : h.get? h.objs.size with
  | none => rfl
  | some o => exact absurd (Heap.lt_size hx) (Nat.lt_irrefl _)
/-- a place behind a heap that keeps all -/
theorem behind {h h1 : Heap} (F : Fr g L h m) (hk : ∀ b o, h.get? b = some o → h1.get? b = some o) : h.get? h1.objs.size = none ∧ L < h1.objs.size := by
  refine ⟨?_, ?_⟩
  · cases hx : h.get? h1.objs.size with
    | none => rfl
    | some o => exact absurd (Heap.lt_size (hk _ _ hx)) (Nat.lt_irrefl _)
  · obtain ⟨oL, es, ep, hL, hr⟩ := F.ns
    exact Heap.lt_size (hk _ _ hL)

theorem isSet_nil (led : Bool) : IsSet w [] (setOf #[] 0 (t0 led)) := by
  refine ⟨#[], 0, t0 led, rfl, rfl, rfl, .inr rfl, .nil, ?_, by decide⟩
  intro i hi
  have : i = 0 := by simpa using hi
  subst this; rfl
theorem tr_newSet0 (B : Bas w g) : Tr prog w A g L m n (call (.type "set") []) (fun v n' => ∃ a o, v = .ref a ∧ New n a ∧ IsSet w [] o ∧ n' = (a, o) :: n) :=
  ⟨fun s Q E F N k => newSet_N F N fun h' led F' N' => k _ h' s.toks _ ⟨_, _, rfl, New.of_lt B F N, isSet_nil led, rfl⟩ F' N'⟩

theorem isSet_0 (c : Nat) (u : Tok) : IsSet w [0] (setOf #[(hashInt 0, .int 0 u)] c { mask := 7, place := #[0], dummies := #[], finger := 0, led := ledOf w, moves := 0, plain := true }) := by
  refine ⟨_, c, _, rfl, rfl, rfl, .inl rfl, .cons 0 u .nil, ?_, by decide⟩
  intro i hi
  have : i = 0 ∨ i = 1 := by have : i ≤ 1 := hi; omega
  rcases this with rfl | rfl <;> (show SetTable.below #[0] (slotAt #[0] _) = _; decide +kernel)
theorem isSet_14 (c : Nat) (u v : Tok) : IsSet w [1, 4] (setOf #[(hashInt 1, .int 1 u), (hashInt 4, .int 4 v)] c { mask := 7, place := #[1, 4], dummies := #[], finger := 0, led := ledOf w, moves := 0, plain := true }) := by
  refine ⟨_, c, _, rfl, rfl, rfl, .inl rfl, .cons 1 u (.cons 4 v .nil), ?_, by decide⟩
  intro i hi
  have : i = 0 ∨ i = 1 ∨ i = 2 := by have : i ≤ 2 := hi; omega
  rcases this with rfl | rfl | rfl <;> (show SetTable.below #[1, 4] (slotAt #[1, 4] _) = _; decide +kernel)

/-- the steps of a filling -/
def Jset (w : World) (l : List Int) (i : Nat) (o : Obj) : Prop :=
  (i = 0 ∧ o = setOf #[] 0 (t0 (ledOf w))) ∨ (i = 1 ∧ ∃ j u c, l[0]? = some j ∧ (j = 0 ∨ j = 1) ∧ o = setOf #[(hashInt j, .int j u)] c { mask := 7, place := #[j.toNat], dummies := #[], finger := 0, led := ledOf w, moves := 0, plain := true }) ∨
  (i = 2 ∧ ∃ u v c, o = setOf #[(hashInt 1, .int 1 u), (hashInt 4, .int 4 v)] c { mask := 7, place := #[1, 4], dummies := #[], finger := 0, led := ledOf w, moves := 0, plain := true })
theorem elems1 (prog : Program) (j : Int) (u : Tok) : ElemsOf (intKind prog w) (#[(hashInt j, Value.int j u)] : Array (Int × Value)).toList := fun e he => by
  simp only [List.mem_singleton] at he
  subst he
  exact ⟨⟨j, intKind_is _ _ _ _, rfl⟩, rfl⟩
theorem set_step {vs : List Value} {l : List Int} (hI : IntsAre vs l) (hl : l = [0] ∨ l = [1, 4]) (i : Nat) (v : Value) (o : Obj) (A : Around) (s : Shared) (Q : Bool → Shared → Prop) (E : Value → Shared → Prop) (a : Addr)
    (hv : vs.toArray[i]? = some v) (hJ : Jset w l i o) (ho : s.heap.get? a = some o)
    (h : ∀ o' h' tk, h'.get? a = some o' → Jset w l (i + 1) o' → Heap.SameBut a s.heap h' → Q true { s with heap := h', toks := tk }) : wpAny (model prog w) A (setAdd a v) Q E s := by
  have hv' : vs[i]? = some v := by rw [List.getElem?_toArray] at hv; exact hv
  have hlen := hI.length
  have hit : i < vs.length := by
    rcases Nat.lt_or_ge i vs.length with h | h
    · exact h
    · rw [List.getElem?_eq_none h] at hv'; cases hv'
  obtain ⟨t, rfl⟩ := hI.int_at i v hv'
  rcases hJ with ⟨rfl, rfl⟩ | ⟨rfl, j, u, c, hj, hj', rfl⟩ | ⟨rfl, u, u', c, rfl⟩
  · rcases hl with rfl | rfl
    · refine setAdd_exact ho rfl (fun e he => by simp at he) (by decide) rfl (lay1 _ 0 (.inl rfl) t) rfl rfl (by show 1 < scanBound; decide) ?_
      exact h _ _ _ (Heap.get?_update_self _ ho rfl) (.inr (.inl ⟨rfl, 0, t, _, rfl, .inl rfl, rfl⟩)) (Heap.SameBut.update ..)
    · refine setAdd_exact ho rfl (fun e he => by simp at he) (by decide) rfl (lay1 _ 1 (.inr rfl) t) rfl rfl (by show 1 < scanBound; decide) ?_
      exact h _ _ _ (Heap.get?_update_self _ ho rfl) (.inr (.inl ⟨rfl, 1, t, _, rfl, .inr rfl, rfl⟩)) (Heap.SameBut.update ..)
  · rcases hl with rfl | rfl
    · simp at hlen; omega
    · obtain rfl : j = 1 := by simpa using hj.symm
      refine setAdd_exact ho rfl (elems1 prog 1 u) (by show 1 < scanBound; decide) (by show List.findIdx? (fun e => Value.isInt 4 e.2) [(hashInt 1, Value.int 1 u)] = none; rfl) (lay2 _ u t) rfl rfl (by show 2 < scanBound; decide) ?_
      exact h _ _ _ (Heap.get?_update_self _ ho rfl) (.inr (.inr ⟨rfl, u, t, _, rfl⟩)) (Heap.SameBut.update ..)
  · rcases hl with rfl | rfl <;> (simp at hlen; omega)
theorem tr_newSet {l : Addr} {vs : List Value} {ns : List Int} (hd : A.handled = none) (B : Bas w g) (hl : Kno g n (fun h => h.IsList l vs.toArray)) (hI : IntsAre vs ns) (hns : ns = [0] ∨ ns = [1, 4]) :
    Tr prog w A g L m n (call (.type "set") [.ref l]) (fun v n' => ∃ a o, v = .ref a ∧ New n a ∧ IsSet w ns o ∧ n' = (a, o) :: n) :=
  ⟨fun s Q E F N k => set_from_list (J := Jset w ns) hd (hl.here F N) (.inl ⟨rfl, rfl⟩) (set_step hI hns) fun h' tk o hJ ho hk => by
    refine k _ h' tk _ ⟨_, _, rfl, New.of_lt B F N, ?_, rfl⟩ (F.after hk) (news_new F N hk (size_none _) F.ns.lt ho)
    have hlen := hI.length
    have hsz : vs.toArray.size = ns.length := by simpa using hlen
    rw [hsz] at hJ
    rcases hns with rfl | rfl
    · rcases hJ with ⟨e, _⟩ | ⟨_, j, u, c, hj, hj', rfl⟩ | ⟨e, _⟩
      · cases e
      · obtain rfl : j = 0 := by simpa using hj.symm
        exact isSet_0 c u
      · cases e
    · rcases hJ with ⟨e, _⟩ | ⟨e, _⟩ | ⟨_, u, v, c, rfl⟩
      · cases e
      · cases e
      · exact isSet_14 c u v⟩
theorem t_set {a : Addr} {l : List Int} (hs : Kno g n (fun h => ∃ o, h.get? a = some o ∧ IsSet w l o)) : Pu prog w A g L m n (truthy (.ref a)) (· = !l.isEmpty) :=
  pu_of fun s Q E F N k => by
    obtain ⟨o, ho, es, ke, t, rfl, hf, hp, hl, hI, hw, hz⟩ := hs.here F N
    have hT : s.TypeIs (.ref a) "set" := ⟨_, ho, rfl⟩
    have hlen : es.size = l.length := by have := hI.length; simpa using this
    have key : wpAny (model prog w) A (runValue (.builtin "len" ⟨[.ref a], []⟩)) (fun r s' => r = .int es.size (s.toks + 1) ∧ s' = { s with toks := s.toks + 1 + 1 }) E s := by
      refine wpAny_runValue (codeAny_builtin entry_len ?_)
      rw [Around.under_plainId plain_len _]
      exact wpAny_mono (wpAny_len_body_set (Q := fun r s' => r = .int es.size (s.toks + 1) ∧ s' = { s with toks := s.toks + 1 + 1 }) ho ⟨rfl, rfl, rfl⟩ rfl hf (by omega) ⟨rfl, rfl⟩)
        (fun fin s' h' => by obtain ⟨r, rfl, hq⟩ := h'; exact hq) fun _ _ e => e
    have hr : ((es.size : Int) != 0) = !l.isEmpty := by
      rw [hlen]; cases l <;> simp
      omega
    unfold truthy
    refine wpAny_bind (wpAny_callSpecial?_none (name := Str.ofString "__bool__") hT noBool_set ?_)
    refine wpAny_bind (wpAny_specialOf (name := Str.ofString "__len__") hT PySem.F.slot_set_len.lookup ?_)
    exact wpAny_bind (wpAny_mono key (fun r s' h' => by obtain ⟨rfl, rfl⟩ := h'; exact wpAny_pure (k _ _ hr)) fun _ _ e => e)
theorem ints_of : ∀ vs : List Value, (∀ v ∈ vs, ∃ n t, v = .int n t) → IntsAre vs (vs.map numOf)
  | [], _ => .nil
  | v :: r, h => by
    obtain ⟨n, t, rfl⟩ := h v (.head _)
    exact .cons n t (ints_of r fun v hv => h v (.tail _ hv))
theorem ints_perm {vs vs' : List Value} {l : List Int} (hI : IntsAre vs l) (hp : vs'.Perm vs) : ∃ ns, IntsAre vs' ns ∧ ns.Perm l :=
  ⟨vs'.map numOf, ints_of vs' fun v hv => hI.all v (hp.mem_iff.mp hv), (hp.map numOf).trans (by rw [hI.nums])⟩
theorem sorted_at {h : Heap} {a : Addr} {vs : List Value} {out : Array Value} {c : Nat} (ho : h.get? a = some (seqObj "list" vs.toArray c)) :
    (∃ c', (sortedHeap h a vs out).get? a = some (seqObj "list" out c')) ∧ ∀ b o, b ≠ a → h.get? b = some o → (sortedHeap h a vs out).get? b = some o := by
  have ha := Heap.lt_size ho
  unfold sortedHeap
  refine ⟨?_, fun b o hb e => ?_⟩
  · have h1 := get?_update_seq ho (fun _ => #[])
    have h2 := Heap.get?_push_of_some (seqObj "tuple" vs.toArray 0) h1
    have h3 := Heap.get?_push_of_some (seqObj "list" #[] 0) h2
    exact ⟨_, get?_update_seq h3 (fun _ => out)⟩
  · have h1 := (Heap.get?_update_other h (Obj.mapSeq fun _ => #[]) (Ne.symm hb)).trans e
    have h2 := Heap.get?_push_of_some (seqObj "tuple" vs.toArray 0) h1
    have h3 := Heap.get?_push_of_some (seqObj "list" #[] 0) h2
    exact (Heap.get?_update_other _ _ (Ne.symm hb)).trans h3
theorem tr_sorted {a : Addr} {l : List Int} (hd : A.handled = none) (B : Bas w g) (hs : Kno g n (fun h => ∃ o, h.get? a = some o ∧ IsSet w l o)) :
    Tr prog w A g L m n (call (.builtin "sorted") [.ref a]) (fun v n' => ∃ b vs ns c, v = .ref b ∧ New n b ∧ IntsAre vs ns ∧ ns.Perm l ∧ ns.Pairwise (· ≤ ·) ∧ n' = (b, listOf vs.toArray c) :: n) :=
  ⟨fun s Q E F N k => by
    obtain ⟨o, ho, es, ke, t, rfl, hf, hp, hl, hI, hw, hz⟩ := hs.here F N
    have hlen : es.size = l.length := by have := hI.length; simpa using this
    refine Calls.call_function_entry kind_sorted plain_sorted entry_sorted (args_sorted1 _) ?_
    unfold Builtin.«sorted»
    refine wpAny_bind (m := checkCount "sorted" 1 1 _) (wpAny_pure ?_)
    refine wpAny_bind (collect_set hf hp hl hw (by exact hd) (by omega) ho fun h1 tk1 hk1 => ?_)
    refine wpAny_bind (wpAny_newList ?_ (hsz := by rw [sizeLine_eq]; simp [ord_size]; omega))
    obtain ⟨ns, hI2, hP2⟩ := ints_perm hI ((ord_perm w a es ke).map (·.2))
    have hle : ((ordOf w a es ke).toList.map (·.2)).length < 64 := by have := hI2.length; rw [hP2.length_eq] at this; omega
    have hoL : (h1.push (seqObj "list" ((ordOf w a es ke).toList.map (·.2)).toArray 0)).get? h1.objs.size = some (seqObj "list" ((ordOf w a es ke).toList.map (·.2)).toArray 0) := Heap.get?_push_size _ rfl
    refine wpAny_bind (wpAny_holding (wpAny_call_entry slot_list_sort ⟨_, hoL, rfl⟩ entry_list_sort (list_sort_tree hoL hI2 hle fun out ns' a1 a2 a3 => ⟨_, rfl, ?_⟩) (args_list_sort _)))
    obtain ⟨⟨c', hc'⟩, hk2⟩ := sorted_at (out := out) hoL
    have hk : ∀ b o, s.heap.get? b = some o → (sortedHeap (h1.push (seqObj "list" ((ordOf w a es ke).toList.map (·.2)).toArray 0)) h1.objs.size ((ordOf w a es ke).toList.map (·.2)) out).get? b = some o := fun b o e =>
      hk2 b o (Nat.ne_of_lt (Heap.lt_size (hk1 b o e))) (Heap.get?_push_of_some _ (hk1 b o e))
    obtain ⟨z1, z2⟩ := behind F hk1
    refine wpAny_pure ⟨_, rfl, k _ _ _ _ ⟨h1.objs.size, out.toList, ns', c', rfl, New.of_none B F N z1 z2, a1, a2.trans hP2, a3, rfl⟩ (F.after hk) (news_new F N hk z1 z2 hc')⟩⟩
end
end Mine
section
open AutoSeq1 (wpAny_loadPart')
open MeetsSeq MeetsSeq2 MeetsSeq3
namespace Mine
/-- two values equal, in this world -/
def EqOf (prog : Program) (w : World) (A : Around) (s : Shared) (y x : Value) : Prop := ∀ (E : Value → Shared → Prop) (Q : Bool → Shared → Prop), Q true s → wpAny (model prog w) A (eqBool y x) Q E s
section
variable {prog : Program} {w : World} {A : Around} {E : Value → Shared → Prop} {s : Shared}
theorem EqOf.at {y x : Value} (h : SeqAt.EqAt A s y x true) : EqOf prog w A s y x := fun E Q q => h prog w E Q q
theorem EqOf.refs {l b : Addr} (hne : l ≠ b) (h : ∀ (E : Value → Shared → Prop) (Q : Value → Shared → Prop), Q (.bool true) s → wpAny (model prog w) A (richCompare .Eq (.ref l) (.ref b)) Q E s) : EqOf prog w A s (.ref l) (.ref b) := fun E Q hq => by
  unfold eqBool
  refine wpAny_holding ?_
  rw [if_neg (by simpa using hne)]
  exact wpAny_bind (h E _ (wpAny_truthy_bool hq))
/-- the walk over two lists of one length whose items agree from place i on -/
theorem own_ne_loop {l b : Addr} {xs ys : Array Value} {ol ob : Obj} {n n2 : Nat} (hsz : xs.size = ys.size) {R : Result → Shared → Prop}
    (hl : s.heap.get? l = some ol) (dl : ol.data = .seq xs n) (hb : s.heap.get? b = some ob) (db : ob.data = .seq ys n2)
    (he : ∀ j (h1 : j < xs.size) (h2 : j < ys.size), EqOf prog w A.in1 s xs[j] ys[j]) (h : R (.ok (.ret (.bool false))) s) :
    ∀ left i : Nat, i + left = xs.size → codeAny (model prog w) A (.builtin "list.__eq__.loop" ⟨[.ref l, .ref b, rawInt i, rawInt 3], []⟩) R s := by
  intro left
  induction left with
  | zero =>
    intro i hi
    have o1 : xs[(i : Int).toNat]? = none := Array.getElem?_eq_none (by omega)
    have o2 : ys[(i : Int).toNat]? = none := Array.getElem?_eq_none (by omega)
    refine codeAny_builtin entry_eq_loop ?_
    rw [Around.under_plainId plain_eq_loop _]
    refine wpAny_bind (m := Builtin.List.listItems (.ref l)) (listItems_at hl dl ?_)
    refine wpAny_bind (m := Builtin.List.listItems (.ref b)) (listItems_at hb db ?_)
    rw [o1, o2]
    refine wpAny_bind (m := Builtin.List.listItems (.ref l)) (listItems_at hl dl ?_)
    refine wpAny_bind (m := Builtin.List.listItems (.ref b)) (listItems_at hb db ?_)
    refine wpAny_pure ?_
    show R (.ok (.ret (.bool (xs.size != ys.size)))) s
    rw [hsz, bne_self_eq_false]
    exact h
  | succ left ih =>
    intro i hi
    have b1 : i < xs.size := by omega
    have b2 : i < ys.size := by omega
    have o1 : xs[(i : Int).toNat]? = some xs[i] := Array.getElem?_eq_getElem b1
    have o2 : ys[(i : Int).toNat]? = some ys[i] := Array.getElem?_eq_getElem b2
    refine codeAny_builtin entry_eq_loop ?_
    rw [Around.under_plainId plain_eq_loop _]
    refine wpAny_bind (m := Builtin.List.listItems (.ref l)) (listItems_at hl dl ?_)
    refine wpAny_bind (m := Builtin.List.listItems (.ref b)) (listItems_at hb db ?_)
    rw [o1, o2]
    refine wpAny_bind (he i b1 b2 _ _ ?_)
    have nx : ((i : Int) + 1) = ((i + 1 : Nat) : Int) := by omega
    refine wpAny_bind (m := again _) (wpAny_pure (wpAny_pure ⟨plainId_quiet plain_eq_loop _, ?_⟩))
    rw [nx]
    exact ih (i + 1) (by omega)
theorem own_ne_lists {l b : Addr} {items items2 : Array Value} (hl : s.heap.IsList l items) (hb : s.heap.IsList b items2) (hsz : items.size = items2.size) (hu : A.units < cLine)
    (he : ∀ j (h1 : j < items.size) (h2 : j < items2.size), EqOf prog w A.in1 s items[j] items2[j]) {Q : Value → Shared → Prop} (h : Q (.bool false) s) :
    wpAny (model prog w) A (richCompare .NotEq (.ref l) (.ref b)) Q E s := by
  have tl := hl.typeIs
  have tb := hb.typeIs
  obtain ⟨ol, gl, _, n, dl⟩ := hl
  obtain ⟨ob, gb, _, n2, db⟩ := hb
  have loop := own_ne_loop (A := A) (R := fun r s' => match r with | .ok (.ret v) => v ≠ .notImplemented ∧ Q v s' | .ok _ => False | .error e => E e s') hsz gl dl gb db he ⟨(fun x => nomatch x), h⟩ items.size 0 (by omega)
  refine wpAny_richCompare_same_room (op := .NotEq) tl tb F.slot_list_ne (wpAny_call (codeAny_call_builtin F.slot_list_ne.plain F.entry_list_ne (F.slot_list_ne.check _ _ _ _ _ _ _ _ tl (F.args_list_ne_2 _ _) ?_))) hu
  refine wpAny_bind (m := slotArgs "__ne__" 1 _) (wpAny_pure ?_)
  refine wpAny_bind (wpAny_isInstance tb AutoSeq1.sub_list_list ?_)
  refine wpAny_bind (m := Builtin.List.listItems (.ref l)) (listItems_at gl dl ?_)
  refine wpAny_bind (m := Builtin.List.listItems (.ref b)) (listItems_at gb db ?_)
  rw [if_neg (by rw [hsz]; simp)]
  exact wpAny_pure ⟨plainId_quiet plain_eq_loop _, loop⟩
theorem one_of {α : Type} {xs : Array α} (h : xs.size = 1) : ∃ x, xs = #[x] := by
  obtain ⟨l⟩ := xs
  match l, h with
  | [x], _ => exact ⟨x, rfl⟩
/-- two dicts of one and the same key, their items equal in this world -/
theorem own_same1 {K : Type} [DecidableEq K] {knd : KeyKind prog w K} {nm : String} {a b : Addr} {k : K} {v y : Value} {Q : Bool → Shared → Prop} (ha : (a == sysModules) = false) (hb : (b == sysModules) = false)
    (da : s.heap.DictOf knd a [(k, v)]) (db : s.heap.DictOf knd b [(k, y)]) (he : EqOf prog w A s v y) (h : Q true s) :
    wpAny (model prog w) A (Builtin.Dict.samePairs nm a b) Q E s := by
  obtain ⟨oa, es, ep, ga, _, ta, ka, pa, _⟩ := da
  obtain ⟨ob, us, eq, gb, _, tb, kb, pb, _⟩ := db
  obtain ⟨e, rfl⟩ := one_of (show es.size = 1 by rw [← Array.length_toList, pa.length]; rfl)
  obtain ⟨u, rfl⟩ := one_of (show us.size = 1 by rw [← Array.length_toList, pb.length]; rfl)
  obtain ⟨ek, ev⟩ := pa.get? (i := 0) (e := e) (k := k) (v := v) rfl rfl
  obtain ⟨uk, uv⟩ := pb.get? (i := 0) (e := u) (k := k) (v := y) rfl rfl
  obtain ⟨k1, hk1, hash⟩ := ka e (by simp)
  obtain rfl := knd.inj _ _ _ hk1 ek
  have place : (#[u] : Array DictEntry).findIdx? (fun x => knd.is k1 x.key) = some 0 := by simp [uk]
  unfold Builtin.Dict.samePairs Builtin.Dict.showsAll
  rw [ha, hb]
  refine wpAny_bind (wpAny_pure (wpAny_bind (wpAny_pure ?_)))
  refine wpAny_bind (wpAny_dictEntries ga ta (wpAny_bind (wpAny_dictEntries gb tb ?_)))
  rw [if_neg (by simp)]
  refine wpAny_bind (wpAny_dictEpoch ga ta (wpAny_bind ?_))
  rw [Std.Legacy.Range.forIn_eq_forIn_range']
  have rg : List.range' [:(#[e] : Array DictEntry).size].start [:(#[e] : Array DictEntry).size].size [:(#[e] : Array DictEntry).size].step = [0] := by simp [Std.Legacy.Range.size]
  rw [rg, List.forIn_cons]
  refine wpAny_bind (wpAny_bind (wpAny_dictEntries ga ta ?_))
  show wpAny _ _ (holding [e.key, e.val] (dictFind b e.key e.hash >>= _) >>= _) _ _ _
  rw [hash]
  refine wpAny_bind (wpAny_holding (wpAny_bind (wpAny_dictFind_of ek gb tb kb ?_)))
  rw [place]
  refine wpAny_bind (wpAny_dictEntries gb tb ?_)
  rw [← uv, ← ev] at he
  refine wpAny_holding (he _ _ ?_)
  rw [if_neg (by decide)]
  refine wpAny_bind (wpAny_dictEpoch ga ta ?_)
  rw [if_neg (by simp)]
  refine wpAny_pure ?_
  show wpAny _ _ (forIn [] _ _) _ _ _
  rw [List.forIn_nil]
  exact wpAny_pure (wpAny_pure h)
theorem own_ne_dict1 {K : Type} [DecidableEq K] {knd : KeyKind prog w K} {a b : Addr} {k : K} {v y : Value} {Q : Value → Shared → Prop} (ha : (a == sysModules) = false) (hb : (b == sysModules) = false)
    (da : s.heap.DictOf knd a [(k, v)]) (db : s.heap.DictOf knd b [(k, y)]) (hu : A.units < cLine) (he : EqOf prog w A.in1 s v y) (h : Q (.bool false) s) :
    wpAny (model prog w) A (richCompare .NotEq (.ref a) (.ref b)) Q E s := by
  refine wpAny_richCompare_same_room (op := .NotEq) da.typeIs db.typeIs PySem.F.slot_dict_ne (wpAny_call_entry PySem.F.slot_dict_ne da.typeIs PySem.F.entry_dict_ne ?_ (PySem.F.args_dict_ne_2 _ _)) hu
  show wpAny _ _ (Builtin.Dict.dictSlotArgs "__ne__" ⟨[.ref a, .ref b], []⟩ >>= _) _ _ s
  refine wpAny_bind ?_
  unfold Builtin.Dict.dictSlotArgs
  refine wpAny_bind (wpAny_notOrdered_dict da.typeIs ?_)
  show wpAny _ _ (pure (Value.ref a, Value.ref b)) _ _ s
  refine wpAny_pure ?_
  refine wpAny_bind (wpAny_isInstance (T := "dict") db.typeIs PySem.F.sub_dict_dict ?_)
  simp only [Bool.not_true, Bool.false_eq_true, if_false]
  refine wpAny_bind (wpAny_pure (wpAny_bind (wpAny_pure ?_)))
  refine wpAny_bind (own_same1 ha hb da db he ?_)
  refine wpAny_pure ⟨_, rfl, ?_, ?_⟩
  · exact fun x => nomatch x
  · simpa using h
end
end Mine

end
namespace Mine
theorem c_makes (w : World) : makesIn (KF w) 117 = true := by kernel_rfl
theorem c_bool (w : World) : findIn (KF w) (.ref 117) "__bool__" = some none := by kernel_rfl
theorem c_len (w : World) : findIn (KF w) (.ref 117) "__len__" = some none := by kernel_rfl
theorem c_init (w : World) : findIn (KF w) (.ref 117) "__init__" = some (some (.ref 29)) := by kernel_rfl
theorem Room.cls {A : Around} {k : Nat} {C : Addr} {rest : List Value} (R : Room A (k + 1)) : Room (A.under (.builtin "type.__call__" ⟨.ref C :: rest, []⟩)) k :=
  ⟨R.hd, by have := R.dep; show A.depth + _ + k < 900; show A.depth + 1 + k < 900; omega, by have := R.un; show A.units + 1 + 16 * k < 9000; omega⟩
section
variable {prog : Program} {w : World} {A : Around} {g : Heap} {L : Addr} {m : Str → Option Value} {n : Led} {s : Shared} {env : Env} {pos apos : Pos} {o e e1 e2 e3 : Expr} {x y : Str} {i j : Int}

/-- the ledger says one thing of a place -/
def Fun (n : Led) : Prop := ∀ a o o', (a, o) ∈ n → (a, o') ∈ n → o = o'
theorem tr_fun {α : Type} {t : Sem α} {P : α → Led → Prop} (h : Fun n → Tr prog w A g L m n t P) : Tr prog w A g L m n t P :=
  ⟨fun s Q E F N k => (h fun a o o' h1 h2 => Option.some.inj ((N _ h1).1.symm.trans (N _ h2).1)).go s Q E F N k⟩
theorem sx_fun {t : Sem Flow} {R : Flow → (Str → Option Value) → Led → Prop} (h : Fun n → Sx prog w A g L m n t R) : Sx prog w A g L m n t R :=
  ⟨fun s Q E F N k => (h fun a o o' h1 h2 => Option.some.inj ((N _ h1).1.symm.trans (N _ h2).1)).go s Q E F N k⟩

/-- a class called -/
theorem tr_cls {C fI : Addr} {args : List Value} {k : Nat} {RP : Addr → Addr → Value → Led → Prop} {Pre : Addr → Addr → Heap → Prop} (hm : makesIn (KF w) C = true) (hi : findIn (KF w) (.ref C) "__init__" = some (some (.ref fI))) (hf : isFn (KF w) (.ref fI) = true)
    (hR : Room A (k + 1)) (hB : Bas w g)
    (S : ∀ x dx, New n x → New n dx → x ≠ dx → FSpec prog w (.ref fI) (.ref x :: args) k [(dx, dictOf [] 0)] (fun h => h.get? x = some (instObj C dx) ∧ Pre x dx h) (RP x dx))
    (hpre : ∀ x dx, New n x → New n dx → Kno g n (Pre x dx)) (hnone : ∀ x dx v n', RP x dx v n' → v = .none) :
    Tr prog w A g L m n (call (.ref C) args) (fun v N' => ∃ x dx n', v = .ref x ∧ New n x ∧ New n dx ∧ x ≠ dx ∧ RP x dx .none n' ∧ (∀ p ∈ n, p ∈ N') ∧ (x, instObj C dx) ∈ N' ∧ ∀ p ∈ n', p ∈ N' ∧ p.1 ∉ n.map (·.1) ∧ p.1 ≠ x) := by
  refine ⟨fun s Q E F N kont => wpAny_call ?_⟩
  obtain ⟨hh, gg, d, t, os⟩ := s
  have X := hB.k.keeps F.keep
  have nx : New n (hh.objs.size + 1) := New.of_none hB F N (by
    cases hx : hh.get? (hh.objs.size + 1) with
    | none => rfl
    | some o => exact absurd (Heap.lt_size hx) (Nat.not_lt.mpr (Nat.le_succ _))) (Nat.lt_succ_of_lt F.ns.lt)
  have ndx : New n hh.objs.size := New.of_lt hB F N
  have hne : hh.objs.size + 1 ≠ hh.objs.size := Nat.succ_ne_self _
  refine make_core (makes_of X hm) (looks_findIn X hi) (fun self => bind_fn X self (beq_iff_eq.mp hf)) (.inl rfl) ?_
  have N1 : News g L ((hh.push emptyDict).push (instObj C hh.objs.size)) ((hh.objs.size + 1, instObj C hh.objs.size) :: (hh.objs.size, dictOf [] 0) :: n) := by
    have := (N.push F emptyDict).push (F.push _) (instObj C hh.objs.size)
    rwa [Heap.size_push] at this
  refine call_core (s := ⟨(hh.push emptyDict).push (instObj C hh.objs.size), gg, d, t, os⟩) (S _ _ nx ndx hne) hR.cls hB (fun p hp => by
      have : p = (hh.objs.size, dictOf [] 0) := by simpa using hp
      subst this; exact .tail _ (.head _)) ?_ _ ((F.push _).push _) N1 ?_
  · refine Kno.and (Kno.mem (mem_drop (.head _) (by simp))) ((hpre _ _ nx ndx).mono fun p hp => mem_drop (.tail _ (.tail _ hp)) ?_)
    simp only [List.map_cons, List.map_nil, List.mem_singleton]
    exact fun e => ndx.1 (e ▸ List.mem_map_of_mem hp)
  · intro v h' tk N' q F' N''
    obtain ⟨n', hRP, rfl, hfr⟩ := q
    obtain rfl := hnone _ _ _ _ hRP
    refine ⟨rfl, kont _ h' tk _ ⟨_, _, n', rfl, nx, ndx, hne, hRP, fun p hp => List.mem_append_right _ (mem_drop (.tail _ (.tail _ hp)) ?_), List.mem_append_right _ (mem_drop (.head _) (by simp)), fun p hp => ⟨List.mem_append_left _ hp, ?_⟩⟩ F' N''⟩
    · simp only [List.map_cons, List.map_nil, List.mem_singleton]
      exact fun e => ndx.1 (e ▸ List.mem_map_of_mem hp)
    · rcases hfr p hp with h | h
      · have e : p.1 = hh.objs.size := by simpa using h
        rw [e]
        exact ⟨ndx.1, fun e => hne e.symm⟩
      · simp only [List.map_cons, List.mem_cons, not_or] at h
        exact ⟨h.2.2, h.1⟩

theorem tr_setRaw {x dx : Addr} {es : List DictEntry} {k : Nat} {name : Str} {v : Value} {P : Unit → Led → Prop} (B : Bas w g) (hm : (dx, dictOf es k) ∈ n) (hx : Kno g n (fun h => h.get? x = some (instObj 117 dx))) (ht : takerIn (KF w) 117 name = some none)
    (hl : (getL name es).isSome = true) (hz : ∀ hsh tk, (putL name hsh (.str name tk) v es).length ≤ 1000) (hP : ∀ hsh tk, P () (put n dx (dictOf (putL name hsh (.str name tk) v es) (putN name es k)))) : Tr prog w A g L m n (setAttr (.ref x) name v) P :=
  ⟨fun s Q E F N kk => by
    have I : InstAt s.heap x (instObj 117 dx) 117 (some (dictOf es k)) := ⟨hx.here F N, rfl, rfl, (N _ hm).1⟩
    exact set_dict F B.k (news_put N hm) I rfl (c_setattr w) (c_plain w) ht (c_dict w) hl rfl (.head (put_off _ _)) (hz _ _) fun h' F' N' => kk () h' _ _ (hP _ _) F' N'⟩
/-- a BlockState is true -/
theorem t_inst {x : Addr} {f : BS} (B : Bas w g) (hx : Kno g n (fun h => BSAt h x f)) : Pu prog w A g L m n (truthy (.ref x)) (· = true) :=
  pu_of fun s Q E F N k => by
    obtain ⟨dx, o, hx1, hx2, h1, h2, h3, h4, h5, h6, h7, h8, a1, a2, a3, a4, a5, a6, a7, a8, b1, b3, b4, kk, rfl⟩ := hx.here F N
    have I : InstAt s.heap x (instObj 117 dx) 117 (some (dictOf (bsEs h1 h2 h3 h4 h5 h6 h7 h8 a1 a2 a3 a4 a5 a6 a7 a8 b1 b3 b4 f) kk)) := ⟨hx1, rfl, rfl, hx2⟩
    exact truthy_K0 F B.k I (c_bool w) (c_len w) (k _ s.toks rfl)
theorem c_isNotOther {a b : Addr} {ob1 ob2 : Obj} (hab : a ≠ b) (h1 : Kno g n (fun h => h.get? a = some ob1)) (h2 : Kno g n (fun h => h.get? b = some ob2)) (ht : ob1.cls ≠ .type "tuple") : Pu prog w A g L m n (compareOp .IsNot (.ref a) (.ref b)) (· = .bool true) :=
  pu_of fun s Q E F N k => wpAny_isNot_ref_other hab (h1.here F N) (h2.here F N) ht (k _ s.toks rfl)
theorem tr_strInt {v : Value} (hv : IsI i v) (hz : i.natAbs.log2 < 1920) : Pu prog w A g L m n (call (.type "str") [v]) (IsS (toString i)) := by
  obtain ⟨t, rfl⟩ := hv
  exact pu_of fun s Q E F N k => PySem.P.str_of_int hz (k _ _ ⟨_, rfl⟩)
theorem tr_addList {a b : Addr} {vs us : List Value} {P : Value → Led → Prop} (B : Bas w g) (ha : Kno g n (fun h => h.IsList a vs.toArray)) (hb : Kno g n (fun h => h.IsList b us.toArray)) (hz : vs.length + us.length ≤ 1000)
    (hP : ∀ c, New n c → P (.ref c) ((c, listOf (vs ++ us).toArray 0) :: n)) : Tr prog w A g L m n (binaryOp .Add (.ref a) (.ref b)) P :=
  ⟨fun s Q E F N k => add_arrays F N (ha.here F N) (hb.here F N) (fun h' F' N' => k _ h' s.toks _ (hP _ (New.of_lt B F N)) F' N') (by rw [sizeLine_eq]; simp; omega)⟩
theorem tr_dictCopy {a : Addr} {kvs : List (Str × Value)} {P : Value → Led → Prop} (B : Bas w g) (hs : (a == sysModules) = false) (ha : Kno g n (fun h => h.DictOf (strKind prog w) a kvs)) (hz : kvs.length ≤ 1000)
    (hP : ∀ c o, New n c → o.IsDictOf (strKind prog w) kvs → P (.ref c) ((c, o) :: n)) : Tr prog w A g L m n (call (.type "dict") [.ref a]) P :=
  ⟨fun s Q E F N k => kt_call_dict hs (ha.here F N) (by rw [sizeLine_eq]; omega) fun h' hd hsb => by
    obtain ⟨o, ho, hd⟩ := Heap.dictOf_iff.mp hd
    exact k _ h' s.toks _ (hP _ o (New.of_lt B F N) hd) (F.filled hsb) (N.filled F hsb ho)⟩
end
end Mine
namespace Mine
theorem fill_frag4 : (PySem.Challenge.rw_bq5015_01, hd.heap_39) = (PySem.Challenge.rw_bq5015_01, hd.heap_39) := by k_fill; rfl
local macro_rules | `(tactic| walk_at "enter") => `(tactic| ((case ho => k_is); (case hcd => k_is); (case hbind => exact fun s _ => BindsTo.of_eq rfl); (case hloc => exact locs rfl); (case c2 => exact rfl); (case c3 => exact rfl); (case c4 => exact rfl); (case c5 => decide)))
section
variable (w : World)
theorem k_tokens : takerIn (KF w) 117 (Str.ofString "tokens") = some none := by kernel_rfl
theorem k_tight : takerIn (KF w) 117 (Str.ofString "list_tight") = some none := by kernel_rfl
theorem k_parent : takerIn (KF w) 117 (Str.ofString "parent") = some none := by kernel_rfl
theorem k_env : takerIn (KF w) 117 (Str.ofString "env") = some none := by kernel_rfl
end
abbrev sLinks : Str := Str.ofString "ref_links"
section
variable {prog : Program} {w : World} {A : Around} {g : Heap} {L : Addr} {m : Str → Option Value} {n : Led} {env : Env} {pos pos' : Pos} {e o : Expr} {rest : List Stmt} {R : Flow → (Str → Option Value) → Led → Prop}
abbrev en (h : Int) (nm : String) (a : Tok) (v : Value) : DictEntry := ⟨h, .str (Str.ofString nm) a, v⟩
theorem sx_newT {x dx : Addr} (es : List DictEntry) (k : Nat) {name : Str} {P : Value → Led → Prop} (B : Bas w g) (hx : g.get? x = some (instObj 117 dx)) (ht : takerIn (KF w) 117 name = some none)
    (he : Tr prog w A g L m n (eval e env) P) (ho : ∀ n1, Pu prog w A g L m n1 (eval o env) (· = .ref x))
    (h : ∀ v n1, P v n1 → (dx, dictOf es k) ∈ n1 ∧ ∀ hsh tk, Sx prog w A g L m (put n1 dx (dictOf (es ++ [⟨hsh, .str name tk, v⟩]) (k + 1))) (execs rest env) R)
    (hl : (getL name es).isSome = true := by rfl) (happ : ∀ hsh tk v, putL name hsh (.str name tk) v es = es ++ [⟨hsh, .str name tk, v⟩] := by intros; rfl) (hn : putN name es k = k + 1 := by rfl) (hz : es.length ≤ 900 := by exact Nat.le_of_ble_eq_true rfl)
    (hw : swapsWith e (some (.Attribute o name pos')) pos.line env = pure false := by rfl) : Sx prog w A g L m n (execs (.Assign [.Attribute o name pos'] e pos :: rest) env) R := by
  refine sx_attr (P := P) (P2 := fun v ov n2 => P v n2 ∧ ov = .ref x) he (fun v n1 q => Tr.mono (ho n1) fun u n' z => by obtain ⟨rfl, rfl⟩ := z; exact ⟨q, rfl⟩) (fun v ov n2 q => ?_) hw
  obtain ⟨q, rfl⟩ := q
  obtain ⟨h1, h3⟩ := h v n2 q
  refine tr_setRaw B h1 (Kno.base hx) ht hl (fun a b => ?_) fun a b => ?_
  · rw [happ]; simp; omega
  · rw [happ, hn]; exact h3 a b
theorem sx_newP {x dx : Addr} (es : List DictEntry) (k : Nat) {name : Str} {P : Value → Prop} (B : Bas w g) (hx : g.get? x = some (instObj 117 dx)) (ht : takerIn (KF w) 117 name = some none) (hm : (dx, dictOf es k) ∈ n)
    (he : Pu prog w A g L m n (eval e env) P) (ho : ∀ n1, Pu prog w A g L m n1 (eval o env) (· = .ref x))
    (h : ∀ v hsh tk, P v → Sx prog w A g L m (put n dx (dictOf (es ++ [⟨hsh, .str name tk, v⟩]) (k + 1))) (execs rest env) R)
    (hl : (getL name es).isSome = true := by rfl) (happ : ∀ hsh tk v, putL name hsh (.str name tk) v es = es ++ [⟨hsh, .str name tk, v⟩] := by intros; rfl) (hn : putN name es k = k + 1 := by rfl) (hz : es.length ≤ 900 := by exact Nat.le_of_ble_eq_true rfl)
    (hw : swapsWith e (some (.Attribute o name pos')) pos.line env = pure false := by rfl) : Sx prog w A g L m n (execs (.Assign [.Attribute o name pos'] e pos :: rest) env) R :=
  sx_newT es k B hx ht he ho (fun v n1 q => by obtain ⟨rfl, q⟩ := q; exact ⟨hm, fun hsh tk => h v hsh tk q⟩) hl happ hn hz hw
end
section
variable {prog : Program} {w : World}
/-- a new BlockState -/
theorem s_init {x dx : Addr} (par : Option (Addr × BS)) (hdx : (dx == sysModules) = false) :
    FSpec prog w (.ref 29) (.ref x :: (match par with | none => [] | some q => [.ref q.1])) 4 [(dx, dictOf [] 0)] (fun h => h.get? x = some (instObj 117 dx) ∧ ∀ q, par = some q → BSAt h q.1 q.2)
      (fun v n' => v = .none ∧ ∃ T S env od oS, IsBS ⟨Str.ofString "", T, 0, 0, par.map (·.1), S, env⟩ od ∧ IsSet w [] oS ∧ (dx, od) ∈ n' ∧ (T, listOf #[] 0) ∈ n' ∧ (S, oS) ∈ n' ∧ (dx == sysModules) = false ∧ (S == sysModules) = false ∧ (T == sysModules) = false ∧
        (∀ q, par = some q → env = q.2.env) ∧ (par = none → ∃ lk oe ol, oe.IsDictOf (strKind prog w) [(sLinks, .ref lk)] ∧ ol.IsDictOf (strKind prog w) [] ∧ (env, oe) ∈ n' ∧ (lk, ol) ∈ n' ∧ (env == sysModules) = false ∧ (lk == sysModules) = false ∧ env ≠ lk)) := by
  refine' fspec_of_body (binds := [(Str.ofString "self", .ref x), (Str.ofString "parent", optRef (par.map (·.1)))]) ?ho ?hcd ?hbind ?hloc ?hb ?c2 ?c3 ?c4 ?c5
  case ho => k_is
  case hcd => k_is
  case hbind =>
    cases par with
    | none => exact fun s X => binds_K (K := hd.heap_39 w.params) X rfl (by k_is) rfl rfl rfl
    | some q => exact fun s X => binds_K (K := hd.heap_39 w.params) X rfl (by k_is) rfl rfl rfl
  case hloc => exact locs rfl
  case c2 => exact rfl
  case c3 => exact rfl
  case c4 => exact rfl
  case c5 => decide
  rintro A g L hR hB ⟨hx, hpar⟩ _
  refine sx_newP [] 0 hB hx (k_src w) (.head _) pu_str (fun n1 => pu_local rfl rfl) fun v1 h1 a1 p1 => ?_
  refine sx_newT [en h1 "src" a1 v1] 1 (P := fun v n1 => ∃ T, v = .ref T ∧ (T == sysModules) = false ∧ T ≠ dx ∧ (T, listOf #[] 0) ∈ n1 ∧ (dx, dictOf [en h1 "src" a1 v1] 1) ∈ n1) hB hx (k_tokens w) (tr_List hB (Pa := fun vs n1 => vs = [] ∧ n1 = put _ _ _) (Tr.mono pu_args0 fun v n' q => ⟨q.2, q.1⟩) fun vs n1 q => ?_) (fun n1 => pu_local rfl rfl) ?_
  · obtain ⟨rfl, rfl⟩ := q
    exact ⟨by decide, fun a ha => ⟨a, rfl, ha.2, fun e => ha.1 (by simp [put, e]), .head _, .tail _ (put_self _ _ _)⟩⟩
  rintro v2 n2 ⟨T, rfl, hT1, hT2, hT3, hm2⟩
  refine ⟨hm2, fun h2 a2 => ?_⟩
  replace hT3 := mem_put (o := dictOf ([en h1 "src" a1 v1] ++ [⟨h2, .str (Str.ofString "tokens") a2, .ref T⟩]) 2) hT3 hT2
  refine sx_newP [en h1 "src" a1 v1, en h2 "tokens" a2 (.ref T)] 2 hB hx (k_cursor w) (put_self _ _ _) pu_int (fun n1 => pu_local rfl rfl) fun v3 h3 a3 p3 => ?_
  replace hT3 := mem_put (o := dictOf ([en h1 "src" a1 v1, en h2 "tokens" a2 (.ref T)] ++ [⟨h3, .str (Str.ofString "cursor") a3, v3⟩]) 3) hT3 hT2
  refine sx_newP [en h1 "src" a1 v1, en h2 "tokens" a2 (.ref T), en h3 "cursor" a3 v3] 3 hB hx (k_limit w) (put_self _ _ _) pu_int (fun n1 => pu_local rfl rfl) fun v4 h4 a4 p4 => ?_
  replace hT3 := mem_put (o := dictOf ([en h1 "src" a1 v1, en h2 "tokens" a2 (.ref T), en h3 "cursor" a3 v3] ++ [⟨h4, .str (Str.ofString "cursor_max") a4, v4⟩]) 4) hT3 hT2
  refine sx_newP [en h1 "src" a1 v1, en h2 "tokens" a2 (.ref T), en h3 "cursor" a3 v3, en h4 "cursor_max" a4 v4] 4 hB hx (k_tight w) (put_self _ _ _) pu_bool (fun n1 => pu_local rfl rfl) fun v5 h5 a5 p5 => ?_
  replace hT3 := mem_put (o := dictOf ([en h1 "src" a1 v1, en h2 "tokens" a2 (.ref T), en h3 "cursor" a3 v3, en h4 "cursor_max" a4 v4] ++ [⟨h5, .str (Str.ofString "list_tight") a5, v5⟩]) 5) hT3 hT2
  refine sx_newP (P := (· = optRef (par.map (·.1)))) [en h1 "src" a1 v1, en h2 "tokens" a2 (.ref T), en h3 "cursor" a3 v3, en h4 "cursor_max" a4 v4, en h5 "list_tight" a5 v5] 5 hB hx (k_parent w) (put_self _ _ _) (pu_local rfl rfl) (fun n1 => pu_local rfl rfl) fun v6 h6 a6 p6 => ?_
  replace hT3 := mem_put (o := dictOf ([en h1 "src" a1 v1, en h2 "tokens" a2 (.ref T), en h3 "cursor" a3 v3, en h4 "cursor_max" a4 v4, en h5 "list_tight" a5 v5] ++ [⟨h6, .str (Str.ofString "parent") a6, v6⟩]) 6) hT3 hT2
  refine sx_newT [en h1 "src" a1 v1, en h2 "tokens" a2 (.ref T), en h3 "cursor" a3 v3, en h4 "cursor_max" a4 v4, en h5 "list_tight" a5 v5, en h6 "parent" a6 v6] 6
    (P := fun v n1 => ∃ S oS, v = .ref S ∧ IsSet w [] oS ∧ (S == sysModules) = false ∧ S ≠ dx ∧ (S, oS) ∈ n1 ∧ (T, listOf #[] 0) ∈ n1 ∧ (dx, dictOf [en h1 "src" a1 v1, en h2 "tokens" a2 (.ref T), en h3 "cursor" a3 v3, en h4 "cursor_max" a4 v4, en h5 "list_tight" a5 v5, en h6 "parent" a6 v6] 6) ∈ n1) hB hx (k_lazy w)
    (tr_Call (pu_B hB (b_set w) rfl (by decide) rfl rfl rfl rfl) (tr_callWithB0 (fun a e => by cases e) (Tr.mono (tr_newSet0 hB) fun v n1 q => ?_))) (fun n1 => pu_local rfl rfl) ?_
  · obtain ⟨S, oS, rfl, hN, hS, rfl⟩ := q
    exact ⟨S, oS, rfl, hS, hN.2, fun e => hN.1 (by rw [e]; exact List.mem_map_of_mem (put_self _ _ _)), .head _, .tail _ hT3, .tail _ (put_self _ _ _)⟩
  rintro v7 n7 ⟨S, oS, rfl, hS, hS1, hS2, hS3, hT3, hm7⟩
  refine ⟨hm7, fun h7 a7 => ?_⟩
  replace hT3 := mem_put (o := dictOf ([en h1 "src" a1 v1, en h2 "tokens" a2 (.ref T), en h3 "cursor" a3 v3, en h4 "cursor_max" a4 v4, en h5 "list_tight" a5 v5, en h6 "parent" a6 v6] ++ [⟨h7, .str (Str.ofString "lazy_line_starts") a7, .ref S⟩]) 7) hT3 hT2
  replace hS3 := mem_put (o := dictOf ([en h1 "src" a1 v1, en h2 "tokens" a2 (.ref T), en h3 "cursor" a3 v3, en h4 "cursor_max" a4 v4, en h5 "list_tight" a5 v5, en h6 "parent" a6 v6] ++ [⟨h7, .str (Str.ofString "lazy_line_starts") a7, .ref S⟩]) 7) hS3 hS2
  obtain ⟨t1, rfl⟩ := p1
  obtain ⟨t3, rfl⟩ := p3
  obtain ⟨t4, rfl⟩ := p4
  subst p5
  subst p6
  cases par with
  | some q =>
    have hq := bs_kno (n := put n7 dx (dictOf ([en h1 "src" a1 (.str (Str.ofString "") t1), en h2 "tokens" a2 (.ref T), en h3 "cursor" a3 (.int 0 t3), en h4 "cursor_max" a4 (.int 0 t4), en h5 "list_tight" a5 (.bool true), en h6 "parent" a6 (.ref q.1)] ++ [⟨h7, .str (Str.ofString "lazy_line_starts") a7, .ref S⟩]) 7)) (hpar q rfl)
    refine sx_ifT (pu_test (pu_local (P := (· = .ref q.1)) rfl rfl) fun v e => by subst e; exact t_inst hB hq) ?_
    refine sx_newP (P := (· = .ref q.2.env)) [en h1 "src" a1 (.str (Str.ofString "") t1), en h2 "tokens" a2 (.ref T), en h3 "cursor" a3 (.int 0 t3), en h4 "cursor_max" a4 (.int 0 t4), en h5 "list_tight" a5 (.bool true), en h6 "parent" a6 (.ref q.1), en h7 "lazy_line_starts" a7 (.ref S)] 7 hB hx (k_env w) (put_self _ _ _) (pu_env hB hq (pu_local rfl rfl)) (fun n1 => pu_local rfl rfl) fun v8 h8 a8 p8 => ?_
    subst p8
    refine sx_nil (sx_nil ⟨rfl, T, S, q.2.env, _, oS, ?_, hS, put_self _ _ _, mem_put hT3 hT2, mem_put hS3 hS2, hdx, hS1, hT1, fun q' e => ?_, fun e => by cases e⟩)
    · exact ⟨h1, h2, h3, h4, h5, h6, h7, h8, a1, a2, a3, a4, a5, a6, a7, a8, t1, t3, t4, _, rfl⟩
    · cases e; rfl
  | none =>
    refine sx_ifF (pu_test (pu_local (P := (· = .none)) rfl rfl) fun v e => by subst e; exact pu_tnone) ?_
    refine sx_newT [en h1 "src" a1 (.str (Str.ofString "") t1), en h2 "tokens" a2 (.ref T), en h3 "cursor" a3 (.int 0 t3), en h4 "cursor_max" a4 (.int 0 t4), en h5 "list_tight" a5 (.bool true), en h6 "parent" a6 .none, en h7 "lazy_line_starts" a7 (.ref S)] 7
      (P := fun v n1 => ∃ env lk oe ol, v = .ref env ∧ oe.IsDictOf (strKind prog w) [(sLinks, .ref lk)] ∧ ol.IsDictOf (strKind prog w) [] ∧ (env, oe) ∈ n1 ∧ (lk, ol) ∈ n1 ∧ (env == sysModules) = false ∧ (lk == sysModules) = false ∧ env ≠ lk ∧ env ≠ dx ∧ lk ≠ dx ∧
        (S, oS) ∈ n1 ∧ (T, listOf #[] 0) ∈ n1 ∧ (dx, dictOf [en h1 "src" a1 (.str (Str.ofString "") t1), en h2 "tokens" a2 (.ref T), en h3 "cursor" a3 (.int 0 t3), en h4 "cursor_max" a4 (.int 0 t4), en h5 "list_tight" a5 (.bool true), en h6 "parent" a6 .none, en h7 "lazy_line_starts" a7 (.ref S)] 7) ∈ n1) hB hx (k_env w) ?_ (fun n1 => pu_local rfl rfl) ?_
    · refine tr_Dict hB (h := fun d o hn ho => ?_)
      have hTd : T ≠ d := fun e => hn.1 (e ▸ List.mem_map_of_mem hT3)
      have hSd : S ≠ d := fun e => hn.1 (e ▸ List.mem_map_of_mem hS3)
      have hdd : d ≠ dx := fun e => hn.1 (e ▸ List.mem_map_of_mem (put_self _ _ _))
      refine tr_pairs pu_str (tr_Dict0 (P := fun v n' => ∃ lk ol, v = .ref lk ∧ New _ lk ∧ ol.IsDictOf (strKind prog w) [] ∧ n' = (lk, ol) :: _) hB fun lk ol hn2 ho2 => ⟨lk, ol, rfl, hn2, ho2, rfl⟩) fun kv v n1 hk q => ?_
      obtain ⟨lk, ol, rfl, hn2, ho2, rfl⟩ := q
      obtain ⟨u1, rfl⟩ := hk
      have hld : lk ≠ d := fun e => hn2.1 (by rw [e]; exact .head _)
      have hlx : lk ≠ dx := fun e => hn2.1 (by rw [e]; exact List.mem_map_of_mem (f := Prod.fst) (List.Mem.tail _ (put_self _ _ _)))
      refine tr_pairs0 ⟨.tail _ (.head _), rfl, (show [sLinks].Nodup from by decide +kernel), fun o' ho' => ⟨d, lk, o', ol, rfl, ho', ho2, put_self _ _ _, mem_put (.head _) hld, hn.2, hn2.2, hld.symm, hdd, hlx, mem_put (.tail _ (.tail _ hS3)) hSd, mem_put (.tail _ (.tail _ hT3)) hTd, mem_put (.tail _ (.tail _ (put_self _ _ _))) hdd.symm⟩⟩
    rintro v8 n8 ⟨env, lk, oe, ol, rfl, he, hl, hem, hlm, e1, e2, e3, e4, e5, hS3, hT3, hm8⟩
    refine ⟨hm8, fun h8 a8 => sx_nil (sx_nil ⟨rfl, T, S, env, _, oS, ?_, hS, put_self _ _ _, mem_put hT3 hT2, mem_put hS3 hS2, hdx, hS1, hT1, fun q' e => (nomatch e), fun _ => ⟨lk, oe, ol, he, hl, mem_put hem e4, mem_put hlm e5, e1, e2, e3⟩⟩)⟩
    exact ⟨h1, h2, h3, h4, h5, h6, h7, h8, a1, a2, a3, a4, a5, a6, a7, a8, t1, t3, t4, _, rfl⟩
end
end Mine
namespace Mine
theorem fill_frag5 : (PySem.Challenge.rw_bq5015_01, hd.heap_39) = (PySem.Challenge.rw_bq5015_01, hd.heap_39) := by k_fill; rfl
local macro_rules | `(tactic| walk_at "enter") => `(tactic| ((case ho => k_is); (case hcd => k_is); (case hbind => exact fun s _ => BindsTo.of_eq rfl); (case hloc => exact locs rfl); (case c2 => exact rfl); (case c3 => exact rfl); (case c4 => exact rfl); (case c5 => decide)))
section
variable {prog : Program} {w : World}
theorem kno_bs {g : Heap} {n : Led} {x dx : Addr} {o : Obj} {f : BS} (h1 : (x, instObj 117 dx) ∈ n) (h2 : (dx, o) ∈ n) (hb : IsBS f o) : Kno g n (fun h => BSAt h x f) := fun h _ q => ⟨dx, o, q _ h1, q _ h2, hb⟩
theorem ne_cls {n : Led} {a b : Addr} {o o' : Obj} (hf : Fun n) (h1 : (a, o) ∈ n) (h2 : (b, o') ∈ n) (hne : o.cls ≠ o'.cls) : a ≠ b := fun e => by
  subst e; exact hne (congrArg Obj.cls (hf _ _ _ h1 h2))
theorem IsBS.cls {f : BS} {o : Obj} (h : IsBS f o) : o.cls = .type "dict" := by obtain ⟨_, _, _, _, _, _, _, _, _, _, _, _, _, _, _, _, _, _, _, _, rfl⟩ := h; rfl
theorem IsSet.cls {l : List Int} {o : Obj} (h : IsSet w l o) : o.cls = .type "set" := by obtain ⟨_, _, _, rfl, _⟩ := h; rfl
/-- the set handed to a child -/
def LazyArg (w : World) (h : Heap) : Option (Addr × List Int) → Prop
  | none => True
  | some q => q.2 ≠ [] ∧ ∃ o, h.get? q.1 = some o ∧ IsSet w q.2 o
theorem s_child {p : Addr} {fp : BS} {tv : Value} {y : Str} {lz : Option (Addr × List Int)} (ht : IsS y tv) (hz : (y.length : Int) < 2 ^ 60) :
    FSpec prog w (.ref 37) [.ref p, tv, optRef (lz.map (·.1))] 8 [] (fun h => BSAt h p fp ∧ LazyArg w h lz)
      (fun v n' => ∃ x dx T S od oS, v = .ref x ∧ IsBS ⟨y, T, 0, y.length, some p, (lz.map (·.1)).getD S, fp.env⟩ od ∧ IsSet w [] oS ∧ (x, instObj 117 dx) ∈ n' ∧ (dx, od) ∈ n' ∧ (T, listOf #[] 0) ∈ n' ∧ (S, oS) ∈ n' ∧
        (x == sysModules) = false ∧ (dx == sysModules) = false ∧ (T == sysModules) = false ∧ (S == sysModules) = false ∧ x ≠ dx) := by
  refine' fspec_of_body (binds := [(Str.ofString "self", .ref p), (Str.ofString "src", tv), (Str.ofString "lazy_line_starts", optRef (lz.map (·.1)))]) ?ho ?hcd ?hbind ?hloc ?hb ?c2 ?c3 ?c4 ?c5
  case ho => k_is
  case hcd => k_is
  case hbind => exact fun s X => binds_K (K := hd.heap_39 w.params) X rfl (by k_is) rfl rfl rfl
  case hloc => exact locs rfl
  case c2 => exact rfl
  case c3 => exact rfl
  case c4 => exact rfl
  case c5 => decide
  rintro A g L hR hB ⟨hp, hlz⟩ _
  refine sx_let (P := fun v n1 => ∃ x dx T S od oS, v = .ref x ∧ IsBS ⟨Str.ofString "", T, 0, 0, some p, S, fp.env⟩ od ∧ IsSet w [] oS ∧ (x, instObj 117 dx) ∈ n1 ∧ (dx, od) ∈ n1 ∧ (T, listOf #[] 0) ∈ n1 ∧ (S, oS) ∈ n1 ∧
        (x == sysModules) = false ∧ (dx == sysModules) = false ∧ (T == sysModules) = false ∧ (S == sysModules) = false ∧ x ≠ dx)
    (tr_Call (pu_K hB (gBlockState w) rfl) (tr_callWith hB (kBlockState w) (pu_args (pu_local (P := (· = .ref p)) rfl rfl) pu_args0) fun vs n1 q => ?_)) fun v n1 q => ?_
  · obtain ⟨rfl, v, r, rfl, rfl, rfl⟩ := q
    refine Tr.mono (tr_cls (k := 4) (RP := fun x dx v n' => _) (Pre := fun x dx h => ∀ q, (some (p, fp)) = some q → BSAt h q.1 q.2) (c_makes w) (c_init w) (fn_init w) (hR.le (by decide)) hB (fun x dx nx ndx hne => s_init (some (p, fp)) ndx.2)
      (fun x dx _ _ => Kno.of (fun q e => by cases e; exact hp) fun h h' k b q e => (b q e).keeps k) (fun x dx v n' q => q.1)) fun v N' q => ?_
    obtain ⟨x, dx, n', rfl, nx, ndx, hne, ⟨_, T, S, env, od, oS, hbs, hS, m1, m2, m3, e1, e2, e3, he, _⟩, hk, hxi, hn'⟩ := q
    obtain rfl := he _ rfl
    exact ⟨x, dx, T, S, od, oS, rfl, hbs, hS, hxi, (hn' _ m1).1, (hn' _ m2).1, (hn' _ m3).1, nx.2, e1, e3, e2, hne⟩
  obtain ⟨x, dx, T, S, od, oS, rfl, hbs, hS, mx, md, mT, mS, e1, e2, e3, e4, hne⟩ := q
  refine sx_fun fun hf => ?_
  have hTd : T ≠ dx := ne_cls hf mT md (by rw [hbs.cls]; decide)
  have hSd : S ≠ dx := ne_cls hf mS md (by rw [hbs.cls, hS.cls]; decide)
  refine sx_expr (P := fun v n' => ∃ od, IsBS ⟨y, T, 0, y.length, some p, S, fp.env⟩ od ∧ (x, instObj 117 dx) ∈ n' ∧ (dx, od) ∈ n' ∧ (T, listOf #[] 0) ∈ n' ∧ (S, oS) ∈ n')
    (tr_Method (pu_local (P := (· = .ref x)) rfl rfl) fun ov q => ?_) fun u n2 q => ?_
  · subst q
    refine ⟨_, _, pu_meth hB (kno_bs mx md hbs) (m_process w) (fn_process w) (by intros; rfl), tr_callWith hB (kp_process w) (pu_args (pu_local rfl ht) pu_args0) fun vs n2 q => ?_⟩
    obtain ⟨rfl, v, r, rfl, hv, rfl⟩ := q
    refine Tr.mono (tr_call (s_process hv hbs hz) (hR.le (by decide)) hB (fun q hq => by
      have : q = (dx, od) := by simpa using hq
      subst this; exact md) (Kno.mem (mem_drop mx (by simpa using hne)))) fun v N' q => ?_
    obtain ⟨n', ⟨_, o', hb', rfl⟩, rfl, _⟩ := q
    exact ⟨o', hb', List.mem_append_right _ (mem_drop mx (by simpa using hne)), .head _, List.mem_append_right _ (mem_drop mT (by simpa using hTd)), List.mem_append_right _ (mem_drop mS (by simpa using hSd))⟩
  obtain ⟨od2, hbs2, mx, md, mT, mS⟩ := q
  cases lz with
  | none =>
    refine sx_skip (pu_test (pu_local (P := (· = .none)) rfl rfl) fun v e => by subst e; exact pu_tnone) (sx_retPu (pu_local (P := (· = .ref x)) rfl rfl) fun v e => ?_)
    exact ⟨x, dx, T, S, od2, oS, e, hbs2, hS, mx, md, mT, mS, e1, e2, e3, e4, hne⟩
  | some q =>
    obtain ⟨hl, hset⟩ := hlz
    refine sx_ifT (pu_test (pu_local (P := (· = .ref q.1)) rfl rfl) fun v e => by
      subst e
      exact (t_set (Kno.of hset fun h h' k b => let ⟨o, a, c⟩ := b; ⟨o, k _ _ a, c⟩)).mono fun b e => by rw [e]; simpa using hl) ?_
    refine sx_attr (P := fun v n' => n' = n2 ∧ v = .ref q.1) (P2 := fun v ov n' => n' = n2 ∧ v = .ref q.1 ∧ ov = .ref x) (pu_local rfl rfl) (fun v n1 q => ?_) fun v ov n1 q => ?_
    · obtain ⟨rfl, rfl⟩ := q; exact Tr.mono (pu_local (P := (· = .ref x)) rfl rfl) fun u n' e => ⟨e.1, rfl, e.2⟩
    obtain ⟨rfl, rfl, rfl⟩ := q
    refine tr_setLazy hB md (Kno.mem mx) hbs2 fun o3 h3 => sx_nil (sx_retPu (pu_local (P := (· = .ref x)) rfl rfl) fun v e => ?_)
    exact ⟨x, dx, T, S, o3, oS, e, h3, hS, mem_put mx hne, put_self _ _ _, mem_put mT hTd, mem_put mS hSd, e1, e2, e3, e4, hne⟩
end
end Mine
namespace Mine
theorem fill_frag6 : (PySem.Challenge.rw_bq5015_01, hd.heap_39) = (PySem.Challenge.rw_bq5015_01, hd.heap_39) := by k_fill; rfl
local macro_rules | `(tactic| walk_at "enter") => `(tactic| ((case ho => k_is); (case hcd => k_is); (case hbind => exact fun s _ => BindsTo.of_eq rfl); (case hloc => exact locs rfl); (case c2 => exact rfl); (case c3 => exact rfl); (case c4 => exact rfl); (case c5 => decide)))
/-- the row of parents -/
inductive Chain (h : Heap) : Option Addr → Nat → Prop
  | none : Chain h none 0
  | some {a : Addr} {f : BS} {d : Nat} : BSAt h a f → Chain h f.par d → Chain h (some a) (d + 1)
abbrev sD : Str := Str.ofString "d"
abbrev sParent : Str := Str.ofString "parent"
section
variable {prog : Program} {w : World}
theorem s_depth {x : Addr} {f : BS} {d : Nat} :
    FSpec prog w (.ref 114) [.ref x] 2 [] (fun h => BSAt h x f ∧ Chain h f.par d) (fun v _ => IsI d v) := by
  refine' fspec_of_body (binds := [(Str.ofString "self", .ref x)]) ?ho ?hcd ?hbind ?hloc ?hb ?c2 ?c3 ?c4 ?c5
  walk_at "enter"
  rintro A g L hR hB ⟨hx, hc⟩ _
  refine sx_letPu pu_int fun v0 h0 => ?_
  refine sx_letPu (P := (· = optRef f.par)) (pu_parent hB (bs_kno hx) (pu_local rfl rfl)) fun v1 h1 => ?_
  subst h1
  refine sx_while (fun k m n => n = [] ∧ ∃ par i v, m sParent = some (optRef par) ∧ m sD = some v ∧ IsI i v ∧ Chain g par k ∧ i + k = d) (D := fun m n => ∃ v, m sD = some v ∧ IsI d v) d ⟨rfl, f.par, 0, v0, rfl, rfl, h0, hc, by omega⟩ ?_ ?_
  · rintro k m n ⟨rfl, par, i, v, hmp, hmd, hv, hch, hik⟩
    cases hch with
    | none =>
      right
      refine ⟨pu_test (pu_local (P := (· = .none)) hmp rfl) fun v e => by subst e; exact pu_tnone, v, hmd, ?_⟩
      have : i = d := by omega
      subst this; exact hv
    | some hb hch =>
      left
      rename_i a f' k'
      refine ⟨pu_test (pu_local (P := (· = .ref a)) hmp rfl) fun v e => by subst e; exact t_inst hB (bs_kno hb), ?_⟩
      obtain ⟨t, rfl⟩ := hv
      refine sx_augname hmd pu_int fun v' hv' => ?_
      refine sx_letPu (P := (· = optRef f'.par)) (pu_parent hB (bs_kno hb) (pu_local (P := (· = .ref a)) (show m sParent = _ from hmp) rfl)) fun v1 h1 => ?_
      subst h1
      exact sx_nil ⟨k', by omega, rfl, f'.par, i + 1, v', rfl, rfl, hv', hch, by omega⟩
  · rintro m n ⟨v, hmd, hv⟩
    exact sx_retPu (pu_local hmd hv) fun v e => e
end
end Mine
namespace Mine
theorem fill_frag7 : (PySem.Challenge.rw_bq5015_01, hd.heap_39) = (PySem.Challenge.rw_bq5015_01, hd.heap_39) := by k_fill; rfl
local macro_rules | `(tactic| walk_at "enter") => `(tactic| ((case ho => k_is); (case hcd => k_is); (case hbind => exact fun s _ => BindsTo.of_eq rfl); (case hloc => exact locs rfl); (case c2 => exact rfl); (case c3 => exact rfl); (case c4 => exact rfl); (case c5 => decide)))
theorem fmod_range (a : Int) {b : Int} (h : 0 < b) : 0 ≤ a.fmod b ∧ a.fmod b < b := by
  rw [Int.fmod_eq_emod_of_nonneg _ (Int.le_of_lt h)]; exact ⟨Int.emod_nonneg _ (by omega), Int.emod_lt_of_pos _ h⟩
/-- the box: the script, the place, the mix -/
def IsBox (script : Addr) (place mix : Int) (o : Obj) : Prop := ∃ t1 t2, IsLs #[.ref script, .int place t1, .int mix t2] o
section
variable {prog : Program} {w : World}
theorem s_draw {B script : Addr} {place mix size : Int} {sv : Value} {oB : Obj} {vs : List Value} {ns : List Int} (hb : IsBox script place mix oB) (hsv : IsI size sv) (hs : 0 < size) (h0 : 0 ≤ place) (h1 : place ≤ 100000) (m0 : 0 ≤ mix) (m1 : mix < 2147483647) (hI : IntsAre vs ns) (h63 : vs.length ≤ 63) :
    FSpec prog w (.ref 130) [.ref B, sv] 1 [(B, oB)] (fun h => h.IsList script vs.toArray)
      (fun v n' => ∃ d mix' oB', IsI d v ∧ 0 ≤ d ∧ d < size ∧ 0 ≤ mix' ∧ mix' < 2147483647 ∧ IsBox script (place + 1) mix' oB' ∧ n' = [(B, oB')]) := by
  refine' fspec_of_body (binds := [(Str.ofString "box", .ref B), (Str.ofString "size", sv)]) ?ho ?hcd ?hbind ?hloc ?hb ?c2 ?c3 ?c4 ?c5
  walk_at "enter"
  rintro A g L hR hB hl _
  obtain ⟨t1, t2, hb⟩ := hb
  have hls : ∀ {n}, Kno g n (fun h => h.IsList script vs.toArray) := Kno.of hl fun h h' k b => b.at fun o e => k _ _ e
  have hbx : Kno g [(B, oB)] (fun h => h.IsList B #[.ref script, .int place t1, .int mix t2]) := fun h _ q => ⟨oB, q _ (.head _), hb⟩
  refine sx_letPu (P := (· = .ref script)) (pu_item hbx (by decide) (by decide) rfl rfl (pu_local rfl rfl) pu_int) fun v e => ?_
  subst e
  refine sx_letPu (P := (· = .int place t1)) (pu_item (k := 1) hbx (by decide) (by decide) rfl rfl (pu_local rfl rfl) pu_int) fun v e => ?_
  subst e
  refine sx_put (pu_add (pu_local rfl ⟨_, rfl⟩) pu_int) (pu_local (P := (· = .ref B)) rfl rfl) pu_int fun v iv hv hi => tr_setList (.head _) hb hi (by decide) (by show (1 : Int) < 3; decide) (by decide) fun o1 h1' => ?_
  obtain ⟨t3, rfl⟩ := hv
  have e1 : put [(B, oB)] B o1 = [(B, o1)] := by simp [put]
  rw [e1]
  have hbx : Kno g [(B, o1)] (fun h => h.IsList B #[.ref script, .int (place + 1) t3, .int mix t2]) := fun h _ q => ⟨o1, q _ (.head _), h1'⟩
  refine sx_letPu (P := fun v => ∃ num, IsI num v ∧ 0 ≤ num ∧ num < 65537) ?_ fun v hv => ?_
  · by_cases hne : vs = []
    · subst hne
      refine Pu.mono (pu_IfF (pu_test (pu_local (P := (· = .ref script)) rfl rfl) fun v e => by subst e; exact t_list hls (by decide)) pu_int) fun v hv => ⟨0, hv, by decide, by decide⟩
    · have hlen : 0 < vs.length := List.length_pos_iff.mpr hne
      have hlt : (place.fmod vs.toArray.size).toNat < vs.length := by
        have a1 := fmod_range place (b := (vs.length : Int)) (by omega)
        simp only [List.size_toArray]; omega
      obtain ⟨tt, htt⟩ := hI.int_at _ _ (List.getElem?_eq_getElem hlt)
      refine Pu.mono (pu_IfT (pu_test (pu_local (P := (· = .ref script)) rfl rfl) fun v e => by
          subst e; exact (t_list hls (by simp; omega)).mono fun b e => by rw [e]; simpa using hne)
        (pu_mod (by decide) (pu_item (v := vs[(place.fmod vs.toArray.size).toNat]) (P := IsI (ns.getD (place.fmod vs.toArray.size).toNat 0)) hls ?_ ?_ (by simp only [List.getElem?_toArray]; exact List.getElem?_eq_getElem hlt) ⟨tt, htt⟩ (pu_local (P := (· = .ref script)) rfl rfl)
          (pu_mod (by simp; omega) (pu_local rfl ⟨_, rfl⟩) (pu_lenList hB hls (by simp; omega) (pu_local rfl rfl)))) pu_int)) fun v hv => ⟨_, hv, ?_, ?_⟩
      · exact (fmod_range _ (by simp; omega)).1
      · have := (fmod_range place (b := (vs.toArray.size : Int)) (by simp; omega)).2
        simp at this ⊢; omega
      · exact (fmod_range _ (by decide)).1
      · exact (fmod_range _ (by decide)).2
  obtain ⟨num, hnum, n0, n1⟩ := hv
  refine sx_put (Pe := IsI ((mix * 48271 + num + place + 1).fmod 2147483647)) (pu_mod (by decide) (pu_add (pu_add (pu_add (pu_mul ?_ (pu_item (k := 2) hbx (by decide) (by decide) rfl ⟨_, rfl⟩ (pu_local rfl rfl) pu_int) pu_int) (pu_local rfl hnum)) (pu_local rfl ⟨_, rfl⟩)) pu_int) pu_int)
    (pu_local (P := (· = .ref B)) rfl rfl) pu_int fun v iv hv hi => tr_setList (k := 2) (.head _) h1' hi (by decide) (by show (2 : Int) < 3; decide) (by decide) fun o2 h2 => ?_
  · exact .of_right (by decide)
  obtain ⟨t4, rfl⟩ := hv
  have e2 : put [(B, o1)] B o2 = [(B, o2)] := by simp [put]
  rw [e2]
  have hbx : Kno g [(B, o2)] (fun h => h.IsList B #[.ref script, .int (place + 1) t3, .int ((mix * 48271 + num + place + 1).fmod 2147483647) t4]) := fun h _ q => ⟨o2, q _ (.head _), h2⟩
  refine sx_retPu (pu_mod (by omega) (pu_div (by decide) (by decide) (pu_item (k := 2) hbx (by decide) (by decide) rfl ⟨_, rfl⟩ (pu_local rfl rfl) pu_int) pu_int) (pu_local rfl hsv)) fun v hv => ?_
  exact ⟨_, _, o2, hv, (fmod_range _ hs).1, (fmod_range _ hs).2, (fmod_range _ (by decide)).1, (fmod_range _ (by decide)).2, ⟨t3, t4, h2⟩, rfl⟩

section
variable {A : Around} {g : Heap} {L : Addr} {m : Str → Option Value} {n : Led} {cn : Str} {cs : Scope} {a : Addr} {ccd : Value} {pos p : Pos} {e1 e2 : Expr}
/-- what a draw leaves -/
def Drawn (script B : Addr) (place : Int) (n N' : Led) : Prop := ∃ mix' oB', 0 ≤ mix' ∧ mix' < 2147483647 ∧ IsBox script (place + 1) mix' oB' ∧ N' = (B, oB') :: drop n [B]
theorem tr_draw {B script : Addr} {place mix size : Int} {oB : Obj} {vs : List Value} {ns : List Int} {k : Nat} (hB : Bas w g) (hR : Room A (k + 1)) (hm : (B, oB) ∈ n) (hb : IsBox script place mix oB) (hs : 0 < size) (h0 : 0 ≤ place) (h1 : place ≤ 100000) (m0 : 0 ≤ mix) (m1 : mix < 2147483647)
    (hI : IntsAre vs ns) (h63 : vs.length ≤ 63) (hl : g.IsList script vs.toArray)
    (hx1 : Pu prog w A g L m n (eval e1 (envOf cn cs L a ccd)) (· = .ref B)) (hx2 : Pu prog w A g L m n (eval e2 (envOf cn cs L a ccd)) (IsI size))
    (hk : cs.kind = .function := by rfl) (hx : (envOf cn cs L a ccd).kindOf (Str.ofString "_law_draw") = some .globalImplicit := by rfl)
    (he : eval (.Call (.Name (Str.ofString "_law_draw") p) [e1, e2] [] pos) (envOf cn cs L a ccd) = (do callWith pos (← eval (.Name (Str.ofString "_law_draw") p) (envOf cn cs L a ccd)) [] (backTo pos (starEach [e1, e2] (envOf cn cs L a ccd))) (backToKw pos (keywordEach [] (envOf cn cs L a ccd)))) := by rfl)
    (hs1 : starEach [e1, e2] (envOf cn cs L a ccd) = (false, eval e1 (envOf cn cs L a ccd)) :: starEach [e2] (envOf cn cs L a ccd) := by rfl) (hs2 : starEach [e2] (envOf cn cs L a ccd) = (false, eval e2 (envOf cn cs L a ccd)) :: starEach [] (envOf cn cs L a ccd) := by rfl)
    (hp1 : (backTo pos (starEach [e2] (envOf cn cs L a ccd))).any (·.1) = false := by rfl) :
    Tr prog w A g L m n (eval (.Call (.Name (Str.ofString "_law_draw") p) [e1, e2] [] pos) (envOf cn cs L a ccd)) (fun v N' => ∃ d, IsI d v ∧ 0 ≤ d ∧ d < size ∧ Drawn script B place n N') :=
  tr_Call (pu_K hB (g_law_draw w) rfl hk hx rfl) (tr_callWith hB (k_law_draw w) (pu_args hx1 (pu_args hx2 pu_args0 hs2) hs1) (fun us n1 q => by
    obtain ⟨rfl, v, r, rfl, rfl, v2, r2, rfl, hv2, rfl⟩ := q
    refine Tr.mono (tr_call (s_draw hb hv2 hs h0 h1 m0 m1 hI h63) (hR.le (by omega)) hB (fun q hq => by
      have : q = (B, oB) := by simpa using hq
      subst this; exact hm) (Kno.of hl fun h h' k b => b.at fun o e => k _ _ e)) fun v N' q => ?_
    obtain ⟨n', ⟨d, mix', oB', hd, d0, d1, m0', m1', hb', rfl⟩, rfl, _⟩ := q
    exact ⟨d, hd, d0, d1, mix', oB', m0', m1', hb', rfl⟩) hs1 hp1) he
theorem s_pick {B script rl : Addr} {place mix : Int} {oB : Obj} {vs items : List Value} {ns : List Int} (hb : IsBox script place mix oB) (hs : 0 < items.length) (hz : items.length < 1000) (h0 : 0 ≤ place) (h1 : place ≤ 100000) (m0 : 0 ≤ mix) (m1 : mix < 2147483647) (hI : IntsAre vs ns) (h63 : vs.length ≤ 63) :
    FSpec prog w (.ref 137) [.ref B, .ref rl] 3 [(B, oB)] (fun h => h.IsList script vs.toArray ∧ h.IsList rl items.toArray)
      (fun v n' => ∃ i : Nat, items[i]? = some v ∧ Drawn script B place [(B, oB)] n') := by
  refine' fspec_of_body (binds := [(Str.ofString "box", .ref B), (Str.ofString "rows", .ref rl)]) ?ho ?hcd ?hbind ?hloc ?hb ?c2 ?c3 ?c4 ?c5
  walk_at "enter"
  rintro A g L hR hB ⟨hl, hr⟩ _
  have hrk : ∀ {n}, Kno g n (fun h => h.IsList rl items.toArray) := Kno.of hr fun h h' k b => b.at fun o e => k _ _ e
  refine sx_ret (P := fun v n' => ∃ i : Nat, items[i]? = some v ∧ Drawn script B place [(B, oB)] n') (tr_item (items := items.toArray) (pu_local (P := (· = .ref rl)) rfl rfl)
    (tr_draw (size := items.length) hB hR (.head _) hb (by omega) h0 h1 m0 m1 hI h63 hl (pu_local rfl rfl) (Pu.mono (pu_lenList hB hrk (by simp; omega) (pu_local rfl rfl)) fun v hv => by simpa using hv)) fun i n2 q => ?_) fun v n1 q => q
  obtain ⟨d, ⟨u, rfl⟩, d0, d1, hD⟩ := q
  have hlt : d.toNat < items.length := by omega
  exact ⟨d, u, items[d.toNat], rfl, hrk, d0, by omega, by simp only [List.getElem?_toArray]; exact List.getElem?_eq_getElem hlt, d.toNat, List.getElem?_eq_getElem hlt, hD⟩
end
end
end Mine
namespace Mine
theorem fill_frag8 : (PySem.Challenge.rw_bq5015_01, hd.heap_39) = (PySem.Challenge.rw_bq5015_01, hd.heap_39) := by k_fill; rfl
local macro_rules | `(tactic| walk_at "enter") => `(tactic| ((case ho => k_is); (case hcd => k_is); (case hbind => exact fun s _ => BindsTo.of_eq rfl); (case hloc => exact locs rfl); (case c2 => exact rfl); (case c3 => exact rfl); (case c4 => exact rfl); (case c5 => decide)))
abbrev texts : List Str := [Str.ofString "", Str.ofString "a", Str.ofString "a\n", Str.ofString "ab\ncd\n", Str.ofString "\n\n", Str.ofString "x\n\ny", Str.ofString "p q\nr\n\ns\n", Str.ofString "\nz"]
abbrev pieces : List Str := [Str.ofString "a", Str.ofString "b\n", Str.ofString "", Str.ofString "c d\n\n"]
/-- a text on which the law's walk and the class's find agree -/
def EndOk (x : Str) : Prop := x.length ≤ 9 ∧ ∀ k : Nat, k < 13 → (x.length ≤ k → lend x k = x.length) ∧ (k < x.length → (Txt.item x k = nl → lend x k = k + 1) ∧ (Txt.item x k ≠ nl → lend x k = lend x (k + 1))) ∧ (0 ≤ lend x k ∧ lend x k ≤ 9)
theorem endOk_texts : ∀ x ∈ texts, EndOk x := by
  unfold EndOk
  decide +kernel
section
variable {prog : Program} {w : World} {A : Around} {g : Heap} {L : Addr} {m : Str → Option Value} {n : Led} {env : Env} {pos : Pos} {value slice : Expr}
theorem pu_itemStr {x : Str} {i : Int} (h0 : 0 ≤ i) (h1 : i < x.length) (hf : i < 2 ^ 60) (hv : Pu prog w A g L m n (eval value env) (IsS x)) (hi : Pu prog w A g L m n (eval slice env) (IsI i))
    (hs : ∀ t u, subscripted slice false (.str x t) (.int i u) = operate [.str x t, .int i u] (getItem (.str x t) (.int i u)) := by intro _ _; with_unfolding_all rfl) :
    Pu prog w A g L m n (eval (.Subscript value slice pos) env) (IsS (Txt.item x i)) :=
  pu_Subscript hv hi fun o j e e' => by
    obtain ⟨t, rfl⟩ := e
    obtain ⟨u, rfl⟩ := e'
    exact pu_of fun s _ _ F N k => item_str (by unfold fitsSsize; simp; omega) (by omega) h1 (fun _ => k _ _ ⟨_, rfl⟩) (hs t u) (fun r => letGo_str _ _ _ _)
end
abbrev sK : Str := Str.ofString "k"
abbrev sSrc : Str := Str.ofString "src"
section
variable {prog : Program} {w : World}
theorem s_end {x : Str} {p : Int} {xv pv : Value} (hx : IsS x xv) (hp : IsI p pv) (h0 : 0 ≤ p) (h1 : p < 13) (hE : EndOk x) :
    FSpec prog w (.ref 144) [xv, pv] 1 [] (fun _ => True) (fun v _ => IsI (lend x p) v) := by
  refine' fspec_of_body (binds := [(Str.ofString "src", xv), (Str.ofString "place", pv)]) ?ho ?hcd ?hbind ?hloc ?hb ?c2 ?c3 ?c4 ?c5
  walk_at "enter"
  rintro A g L hR hB _ _
  obtain ⟨hl9, hE⟩ := hE
  refine sx_letPu (P := IsI p) (pu_local rfl hp) fun v0 hv0 => ?_
  refine sx_while (fun k m n => n = [] ∧ ∃ (i : Nat) (v : Value), m sSrc = some xv ∧ m sK = some v ∧ IsI i v ∧ i < 13 ∧ lend x p = lend x i ∧ i + k = 13) (D := fun m n => m sSrc = some xv ∧ lend x p = x.length) (13 - p.toNat)
    ⟨rfl, p.toNat, v0, rfl, rfl, by rwa [Int.toNat_of_nonneg h0], by omega, by rw [Int.toNat_of_nonneg h0], by omega⟩ ?_ ?_
  · rintro k m n ⟨rfl, i, v, hms, hmk, hv, hi, hlp, hik⟩
    obtain ⟨e1, e2, _⟩ := hE i hi
    by_cases hlt : (i : Int) < x.length
    · left
      refine ⟨(pu_testCmp (pu_local hmk hv) (pu_lenStr hB (by omega) (pu_local hms hx)) fun a b ha hb => (c_ltI ha hb).to (decide_eq_true hlt)), ?_⟩
      obtain ⟨e3, e4⟩ := e2 (by omega)
      by_cases hn : Txt.item x i = nl
      · refine sx_ifT (pu_testCmp (pu_itemStr (by omega) hlt (by omega) (pu_local hms hx) (pu_local hmk hv)) pu_str fun a b ha hb => (c_eqS ha hb).to (by simpa using hn)) ?_
        refine sx_retPu (pu_add (pu_local hmk hv) pu_int) fun v hv => ?_
        rw [hlp, e3 hn]; exact hv
      · refine sx_skip (pu_testCmp (pu_itemStr (by omega) hlt (by omega) (pu_local hms hx) (pu_local hmk hv)) pu_str fun a b ha hb => (c_eqS ha hb).to (by simpa using hn)) ?_
        refine sx_letPu (pu_add (pu_local hmk hv) pu_int) fun v' hv' => sx_nil ⟨k - 1, by omega, rfl, i + 1, v', hms, rfl, by exact_mod_cast hv', by omega, ?_, by omega⟩
        rw [hlp, e4 hn]; rfl
    · right
      exact ⟨(pu_testCmp (pu_local hmk hv) (pu_lenStr hB (by omega) (pu_local hms hx)) fun a b ha hb => (c_ltI ha hb).to (decide_eq_false hlt)), hms, by rw [hlp, e1 (by omega)]⟩
  · rintro m n ⟨hms, hl⟩
    exact sx_retPu (pu_lenStr hB (by omega) (pu_local hms hx)) fun v hv => by rw [hl]; exact hv
end
end Mine
namespace Mine
/-- a token of the ghost: its place, its kind, its text -/
structure Tk where
  a : Addr
  ty : Str
  tx : Str
/-- a state of the ghost -/
structure SN where
  x : Addr
  dx : Addr
  f : BS
  ts : List Tk
  lz : List Int
/-- a model of the ghost -/
structure MN where
  md : Addr
  mt : Addr
  mz : Addr
  src : Str
  lim : Int
  cur : Int
  par : Option Nat
  ev : Bool
  env : Addr
  ts : List Tk
  lz : List Int
/-- a pair of envs -/
structure EN where
  se : Addr
  sl : Addr
  me : Addr
  ml : Addr
  kv : List (Str × Int)
  mkv : List (Str × Int)
structure DD where
  B : Addr
  SL : Addr
  ML : Addr
  script : Addr
  place : Int
  mix : Int
  cs : Nat
  cm : Nat
  s : Nat → SN
  m : Nat → MN
  e : Bool → EN
inductive Owner
  | box | sl | ml
  | s (k : Nat) | m (k : Nat) | e (b : Bool)
  deriving DecidableEq
inductive Cell
  | box (p m : Int) | insts (xs : List Addr) | mods (xs : List Addr)
  | inst (k : Nat) (dx : Addr) | bs (k : Nat) (f : BS) | toks (k : Nat) (ts : List Addr) | tok (k : Nat) (ty tx : Str) | set (k : Nat) (l : List Int)
  | md (k : Nat) (src : Str) (lim : Int) (mt : Addr) (cur : Int) (mz : Addr) (par : Option Nat) (env : Addr) | mt (k : Nat) (ts : List Addr) | mtok (k : Nat) (ty tx : Str) | mz (k : Nat) (l : List Int)
  | env (b : Bool) (l : Addr) | lk (b : Bool) (kv : List (Str × Int)) | menv (b : Bool) (l : Addr) | mlk (b : Bool) (kv : List (Str × Int))
def Cell.own : Cell → Owner
  | .box .. => .box | .insts .. => .sl | .mods .. => .ml
  | .inst k _ | .bs k _ | .toks k _ | .tok k .. | .set k _ => .s k
  | .md k .. | .mt k _ | .mtok k .. | .mz k _ => .m k
  | .env b _ | .lk b _ | .menv b _ | .mlk b _ => .e b
/-- a list with its places -/
def IsRefs (xs : List Addr) (o : Obj) : Prop := ∃ c, o = listOf (xs.map Value.ref).toArray c
def IsIntL (l : List Int) (o : Obj) : Prop := ∃ vs c, IntsAre vs l ∧ o = listOf vs.toArray c
inductive KVs : List (Str × Value) → List (Str × Int) → Prop
  | nil : KVs [] []
  | cons (k : Str) (i : Int) (t : Tok) {a b} : KVs a b → KVs ((k, .int i t) :: a) ((k, i) :: b)
def parV (t : Tok) : Option Nat → Value
  | none => .none
  | some k => .int k t
abbrev mdKv (src : Str) (lim : Int) (mt : Addr) (cur : Int) (mz : Addr) (par : Option Nat) (env : Addr) (t1 t2 t3 t4 : Tok) : List (Str × Value) :=
  [(Str.ofString "src", .str src t1), (Str.ofString "limit", .int lim t2), (Str.ofString "tokens", .ref mt), (Str.ofString "cursor", .int cur t3), (Str.ofString "lazy", .ref mz), (Str.ofString "parent", parV t4 par), (Str.ofString "env", .ref env)]
section
variable (prog : Program) (w : World) (script : Addr)
def IsMD (src : Str) (lim : Int) (mt : Addr) (cur : Int) (mz : Addr) (par : Option Nat) (env : Addr) (o : Obj) : Prop := ∃ t1 t2 t3 t4, o.IsDictOf (strKind prog w) (mdKv src lim mt cur mz par env t1 t2 t3 t4)
def IsLinks (kv : List (Str × Int)) (o : Obj) : Prop := ∃ vals, KVs vals kv ∧ o.IsDictOf (strKind prog w) vals
def Cell.holds : Cell → Obj → Prop
  | .box p m => IsBox script p m
  | .insts xs | .mods xs => IsRefs xs
  | .inst _ dx => fun o => o = instObj 117 dx
  | .bs _ f => IsBS f
  | .toks _ ts | .mt _ ts => IsRefs ts
  | .tok _ ty tx | .mtok _ ty tx => IsTok prog w ty tx
  | .set _ l => IsSet w l
  | .md _ src lim mtA cur mzA par envA => IsMD prog w src lim mtA cur mzA par envA
  | .mz _ l => IsIntL l
  | .env _ l | .menv _ l => fun o => o.IsDictOf (strKind prog w) [(sLinks, .ref l)]
  | .lk _ kv | .mlk _ kv => IsLinks prog w kv
abbrev Store := Addr → Option Cell
/-- the ledger bears the store -/
def Sat (σ : Store) (n : Led) : Prop := ∀ a c, σ a = some c → (a == sysModules) = false ∧ ∃ o, (a, o) ∈ n ∧ c.holds prog w script o
end
def RS (k : Nat) (N : SN) (σ : Store) : Prop := σ N.x = some (.inst k N.dx) ∧ σ N.dx = some (.bs k N.f) ∧ σ N.f.T = some (.toks k (N.ts.map (·.a))) ∧ σ N.f.S = some (.set k N.lz) ∧ (∀ t ∈ N.ts, σ t.a = some (.tok k t.ty t.tx)) ∧ (N.ts.map (·.a)).Nodup
def RM (k : Nat) (N : MN) (σ : Store) : Prop := σ N.md = some (.md k N.src N.lim N.mt N.cur N.mz N.par N.env) ∧ σ N.mt = some (.mt k (N.ts.map (·.a))) ∧ σ N.mz = some (.mz k N.lz) ∧ (∀ t ∈ N.ts, σ t.a = some (.mtok k t.ty t.tx)) ∧ (N.ts.map (·.a)).Nodup
def RE (b : Bool) (N : EN) (σ : Store) : Prop := σ N.se = some (.env b N.sl) ∧ σ N.sl = some (.lk b N.kv) ∧ σ N.me = some (.menv b N.ml) ∧ σ N.ml = some (.mlk b N.mkv)
def Part (D : DD) : Owner → Store → Prop
  | .box, σ => σ D.B = some (.box D.place D.mix)
  | .sl, σ => σ D.SL = some (.insts ((List.range D.cs).map fun k => (D.s k).x))
  | .ml, σ => σ D.ML = some (.mods ((List.range D.cm).map fun k => (D.m k).md))
  | .s k, σ => k < D.cs → RS k (D.s k) σ
  | .m k, σ => k < D.cm → RM k (D.m k) σ
  | .e b, σ => RE b (D.e b) σ
def Rep (D : DD) (σ : Store) : Prop := ∀ o, Part D o σ
theorem part_sub {D : DD} {o : Owner} {σ σ' : Store} (h : Part D o σ) (hs : ∀ b c, σ b = some c → c.own = o → σ' b = some c) : Part D o σ' := by
  cases o with
  | box => exact hs _ _ h rfl
  | sl => exact hs _ _ h rfl
  | ml => exact hs _ _ h rfl
  | s k => intro hk; obtain ⟨a, b, c, d, e, f⟩ := h hk; exact ⟨hs _ _ a rfl, hs _ _ b rfl, hs _ _ c rfl, hs _ _ d rfl, fun t ht => hs _ _ (e t ht) rfl, f⟩
  | m k => intro hk; obtain ⟨a, b, c, d, e⟩ := h hk; exact ⟨hs _ _ a rfl, hs _ _ b rfl, hs _ _ c rfl, fun t ht => hs _ _ (d t ht) rfl, e⟩
  | e b => obtain ⟨a, b, c, d⟩ := h; exact ⟨hs _ _ a rfl, hs _ _ b rfl, hs _ _ c rfl, hs _ _ d rfl⟩
def supd (σ : Store) (a : Addr) (c : Cell) : Store := fun b => if b = a then some c else σ b
theorem supd_self (σ : Store) (a : Addr) (c : Cell) : supd σ a c a = some c := if_pos rfl
theorem supd_ne {σ : Store} {a b : Addr} {c : Cell} (h : b ≠ a) : supd σ a c b = σ b := if_neg h
/-- a cell of another make stays -/
theorem supd_of {σ : Store} {a b : Addr} {c c0 c1 : Cell} (h0 : σ a = some c0) (h : σ b = some c1) (hne : c1 ≠ c0) : supd σ a c b = some c1 := by
  rw [supd_ne]; exact h
  intro e; subst e; rw [h] at h0; exact hne (Option.some.inj h0)
theorem supd_new {σ : Store} {a b : Addr} {c c1 : Cell} (h0 : σ a = none) (h : σ b = some c1) : supd σ a c b = some c1 := by
  rw [supd_ne]; exact h
  intro e; subst e; rw [h] at h0; cases h0
/-- parts of other owners stay -/
theorem rep_up {D D' : DD} {σ : Store} {a : Addr} {c : Cell} {o : Owner} (R : Rep D σ) (hc : ∀ c0, σ a = some c0 → c0.own = o) (hD : ∀ o', o' ≠ o → ∀ σ', Part D o' σ' → Part D' o' σ') (hP : Part D' o (supd σ a c)) : Rep D' (supd σ a c) := fun o' => by
  by_cases h : o' = o
  · subst h; exact hP
  · refine hD o' h _ (part_sub (R o') fun b c1 hb ho => ?_)
    rw [supd_ne]; exact hb
    intro e; subst e
    exact h (ho.symm.trans (hc _ hb))
section
variable {prog : Program} {w : World} {script : Addr}
theorem Sat.up {σ : Store} {n n' : Led} {a : Addr} {c : Cell} {o : Obj} (S : Sat prog w script σ n) (ha : (a == sysModules) = false) (hm : (a, o) ∈ n') (hh : c.holds prog w script o) (hk : ∀ p ∈ n, p.1 ≠ a → p ∈ n') : Sat prog w script (supd σ a c) n' := fun b c1 hb => by
  by_cases h : b = a
  · subst h
    rw [supd_self] at hb; cases hb
    exact ⟨ha, o, hm, hh⟩
  · rw [supd_ne h] at hb
    obtain ⟨h1, ob, h2, h3⟩ := S b c1 hb
    exact ⟨h1, ob, hk _ h2 h, h3⟩
theorem Sat.mono {σ : Store} {n n' : Led} (S : Sat prog w script σ n) (hk : ∀ p ∈ n, p ∈ n') : Sat prog w script σ n' := fun b c1 hb => by
  obtain ⟨h1, ob, h2, h3⟩ := S b c1 hb
  exact ⟨h1, ob, hk _ h2, h3⟩
theorem Sat.new {σ : Store} {n : Led} {a : Addr} (S : Sat prog w script σ n) (h : New n a) : σ a = none := by
  cases hx : σ a with
  | none => rfl
  | some c => obtain ⟨_, ob, h2, _⟩ := S a c hx; exact absurd (List.mem_map_of_mem h2) h.1
end
def Inv (prog : Program) (w : World) (D : DD) (n : Led) : Prop := ∃ σ, Rep D σ ∧ Sat prog w D.script σ n
def InvH (prog : Program) (w : World) (D : DD) (h : Heap) : Prop := ∃ n, Inv prog w D n ∧ ∀ p ∈ n, h.get? p.1 = some p.2
end Mine
namespace Mine
def DD.setS (D : DD) (k : Nat) (N : SN) : DD := { D with s := fun j => if j = k then N else D.s j }
def DD.setM (D : DD) (k : Nat) (N : MN) : DD := { D with m := fun j => if j = k then N else D.m j }
def DD.setE (D : DD) (b : Bool) (N : EN) : DD := { D with e := fun j => if j = b then N else D.e j }
theorem DD.setS_self (D : DD) (k : Nat) (N : SN) : (D.setS k N).s k = N := if_pos rfl
theorem DD.setM_self (D : DD) (k : Nat) (N : MN) : (D.setM k N).m k = N := if_pos rfl
theorem DD.setE_self (D : DD) (b : Bool) (N : EN) : (D.setE b N).e b = N := if_pos rfl
theorem DD.setS_ne (D : DD) {k j : Nat} (N : SN) (h : j ≠ k) : (D.setS k N).s j = D.s j := if_neg h
theorem DD.setM_ne (D : DD) {k j : Nat} (N : MN) (h : j ≠ k) : (D.setM k N).m j = D.m j := if_neg h
theorem DD.setE_ne (D : DD) {b j : Bool} (N : EN) (h : j ≠ b) : (D.setE b N).e j = D.e j := if_neg h
section
variable {prog : Program} {w : World} {D : DD} {h : Heap} {n n' : Led} {g : Heap} {k : Nat} {σ : Store}
theorem Inv.kno (I : Inv prog w D n) : Kno g n (InvH prog w D) := fun h _ q => ⟨n, I, q⟩
theorem InvH.keeps {h' : Heap} (hk : h.StaysIn h') (I : InvH prog w D h) : InvH prog w D h' := let ⟨n, i, q⟩ := I; ⟨n, i, fun p hp => hk _ _ (q p hp)⟩
theorem refs_list {xs : List Addr} {o : Obj} {a : Addr} (ho : h.get? a = some o) (hr : IsRefs xs o) : h.IsList a (xs.map Value.ref).toArray := by obtain ⟨c, rfl⟩ := hr; exact ⟨_, ho, rfl, c, rfl⟩
/-- what the heap shows at a cell -/
theorem InvH.cell (I : InvH prog w D h) {a : Addr} {c : Cell} {P : Prop} (hc : ∀ σ, Rep D σ → σ a = some c) (hP : ∀ o, h.get? a = some o → c.holds prog w D.script o → (a == sysModules) = false → P) : P := by
  obtain ⟨n, ⟨σ, R, S⟩, q⟩ := I
  obtain ⟨h1, o, h2, h3⟩ := S a c (hc σ R)
  exact hP o (q _ h2) h3 h1
theorem Inv.cell (I : Inv prog w D n) {a : Addr} {c : Cell} (hc : ∀ σ, Rep D σ → σ a = some c) : (a == sysModules) = false ∧ ∃ o, (a, o) ∈ n ∧ c.holds prog w D.script o := by
  obtain ⟨σ, R, S⟩ := I
  exact S a c (hc σ R)
theorem rd_states (I : InvH prog w D h) : h.IsList D.SL (((List.range D.cs).map fun k => (D.s k).x).map Value.ref).toArray := I.cell (fun σ R => R .sl) fun o ho hh _ => refs_list ho hh
theorem rd_models (I : InvH prog w D h) : h.IsList D.ML (((List.range D.cm).map fun k => (D.m k).md).map Value.ref).toArray := I.cell (fun σ R => R .ml) fun o ho hh _ => refs_list ho hh
theorem rd_bs (I : InvH prog w D h) (hk : k < D.cs) : BSAt h (D.s k).x (D.s k).f :=
  I.cell (fun σ R => (R (.s k) hk).1) fun o ho hh _ => I.cell (fun σ R => (R (.s k) hk).2.1) fun o2 ho2 hh2 _ => ⟨(D.s k).dx, o2, by rw [ho]; exact congrArg some hh, ho2, hh2⟩
theorem rd_toks (I : InvH prog w D h) (hk : k < D.cs) : h.IsList (D.s k).f.T (((D.s k).ts.map (·.a)).map Value.ref).toArray := I.cell (fun σ R => (R (.s k) hk).2.2.1) fun o ho hh _ => refs_list ho hh
theorem rd_set (I : InvH prog w D h) (hk : k < D.cs) : ∃ o, h.get? (D.s k).f.S = some o ∧ IsSet w (D.s k).lz o := I.cell (fun σ R => (R (.s k) hk).2.2.2.1) fun o ho hh _ => ⟨o, ho, hh⟩
theorem rd_tok (I : InvH prog w D h) (hk : k < D.cs) {t : Tk} (ht : t ∈ (D.s k).ts) : TokAt prog w h t.a t.ty t.tx ∧ (t.a == sysModules) = false := I.cell (fun σ R => (R (.s k) hk).2.2.2.2.1 t ht) fun o ho hh hs => ⟨⟨o, ho, hh⟩, hs⟩
theorem rd_md (I : InvH prog w D h) (hk : k < D.cm) : ∃ t1 t2 t3 t4, h.DictOf (strKind prog w) (D.m k).md (mdKv (D.m k).src (D.m k).lim (D.m k).mt (D.m k).cur (D.m k).mz (D.m k).par (D.m k).env t1 t2 t3 t4) :=
  I.cell (fun σ R => (R (.m k) hk).1) fun o ho hh _ => by obtain ⟨t1, t2, t3, t4, hd⟩ := hh; exact ⟨t1, t2, t3, t4, Heap.dictOf_iff.mpr ⟨o, ho, hd⟩⟩
theorem rd_mt (I : InvH prog w D h) (hk : k < D.cm) : h.IsList (D.m k).mt (((D.m k).ts.map (·.a)).map Value.ref).toArray := I.cell (fun σ R => (R (.m k) hk).2.1) fun o ho hh _ => refs_list ho hh
theorem rd_mz (I : InvH prog w D h) (hk : k < D.cm) : ∃ vs, IntsAre vs (D.m k).lz ∧ h.IsList (D.m k).mz vs.toArray := I.cell (fun σ R => (R (.m k) hk).2.2.1) fun o ho hh _ => by
  obtain ⟨vs, c, hI, rfl⟩ := hh; exact ⟨vs, hI, _, ho, rfl, c, rfl⟩
theorem rd_mtok (I : InvH prog w D h) (hk : k < D.cm) {t : Tk} (ht : t ∈ (D.m k).ts) : TokAt prog w h t.a t.ty t.tx ∧ (t.a == sysModules) = false := I.cell (fun σ R => (R (.m k) hk).2.2.2.1 t ht) fun o ho hh hs => ⟨⟨o, ho, hh⟩, hs⟩
theorem rd_env (I : InvH prog w D h) (b : Bool) : h.DictOf (strKind prog w) (D.e b).se [(sLinks, .ref (D.e b).sl)] ∧ ((D.e b).se == sysModules) = false := I.cell (fun σ R => (R (.e b)).1) fun o ho hh hs => ⟨Heap.dictOf_iff.mpr ⟨o, ho, hh⟩, hs⟩
theorem rd_menv (I : InvH prog w D h) (b : Bool) : h.DictOf (strKind prog w) (D.e b).me [(sLinks, .ref (D.e b).ml)] ∧ ((D.e b).me == sysModules) = false := I.cell (fun σ R => (R (.e b)).2.2.1) fun o ho hh hs => ⟨Heap.dictOf_iff.mpr ⟨o, ho, hh⟩, hs⟩
theorem rd_lk (I : InvH prog w D h) (b : Bool) : ∃ vals, KVs vals (D.e b).kv ∧ h.DictOf (strKind prog w) (D.e b).sl vals ∧ ((D.e b).sl == sysModules) = false := I.cell (fun σ R => (R (.e b)).2.1) fun o ho hh hs => by
  obtain ⟨vals, hv, hd⟩ := hh; exact ⟨vals, hv, Heap.dictOf_iff.mpr ⟨o, ho, hd⟩, hs⟩
theorem rd_mlk (I : InvH prog w D h) (b : Bool) : ∃ vals, KVs vals (D.e b).mkv ∧ h.DictOf (strKind prog w) (D.e b).ml vals ∧ ((D.e b).ml == sysModules) = false := I.cell (fun σ R => (R (.e b)).2.2.2) fun o ho hh hs => by
  obtain ⟨vals, hv, hd⟩ := hh; exact ⟨vals, hv, Heap.dictOf_iff.mpr ⟨o, ho, hd⟩, hs⟩
/-- two cells of unlike make lie apart -/
theorem Rep.ne {a b : Addr} {c c' : Cell} (h1 : σ a = some c) (h2 : σ b = some c') (hne : c ≠ c') : a ≠ b := fun e => by subst e; rw [h1] at h2; exact hne (Option.some.inj h2)
theorem InvH.rep (I : InvH prog w D h) : ∃ σ, Rep D σ := let ⟨_, ⟨σ, R, _⟩, _⟩ := I; ⟨σ, R⟩

/-- the ledger save one place -/
def Kp (n n' : Led) (a : Addr) : Prop := ∀ p ∈ n, p.1 ≠ a → p ∈ n'
theorem Kp.put {a : Addr} {o : Obj} : Kp n (put n a o) a := fun p hp hne => mem_put hp hne
theorem Kp.call {a : Addr} {l : Led} : Kp n (l ++ drop n [a]) a := fun p hp hne => List.mem_append_right _ (mem_drop hp (by simpa using hne))

theorem inv_box (I : Inv prog w D n) : ∃ o, (D.B, o) ∈ n ∧ IsBox D.script D.place D.mix o := (I.cell fun σ R => R .box).2
theorem inv_box_up {o' : Obj} {pl mx : Int} (I : Inv prog w D n) (hm : (D.B, o') ∈ n') (hb : IsBox D.script pl mx o') (hk : Kp n n' D.B) : Inv prog w { D with place := pl, mix := mx } n' := by
  obtain ⟨σ, R, S⟩ := I
  have hB := R .box
  have hs := (S _ _ hB).1
  refine ⟨supd σ D.B (.box pl mx), rep_up (o := .box) R (fun c0 hc => by rw [show σ D.B = _ from hB] at hc; cases hc; rfl) (fun o' ho σ' hp => ?_) (supd_self _ _ _), S.up hs hm hb hk⟩
  cases o' <;> first | exact absurd rfl ho | exact hp
theorem setS_part {N : SN} (hx : N.x = (D.s k).x) : ∀ o', o' ≠ .s k → ∀ σ', Part D o' σ' → Part (D.setS k N) o' σ' := fun o' ho σ' hp => by
  cases o' with
  | sl =>
    have e : (fun j => ((D.setS k N).s j).x) = fun j => (D.s j).x := by
      funext j
      by_cases h : j = k
      · subst h; rw [DD.setS_self, hx]
      · rw [DD.setS_ne _ _ h]
    show σ' D.SL = some (.insts ((List.range D.cs).map fun j => ((D.setS k N).s j).x))
    rw [e]; exact hp
  | s j =>
    have hj : j ≠ k := fun e => ho (by rw [e])
    intro hj'
    rw [DD.setS_ne _ _ hj]; exact hp hj'
  | _ => exact hp
theorem setM_part {N : MN} (hx : N.md = (D.m k).md) : ∀ o', o' ≠ .m k → ∀ σ', Part D o' σ' → Part (D.setM k N) o' σ' := fun o' ho σ' hp => by
  cases o' with
  | ml =>
    have e : (fun j => ((D.setM k N).m j).md) = fun j => (D.m j).md := by
      funext j
      by_cases h : j = k
      · subst h; rw [DD.setM_self, hx]
      · rw [DD.setM_ne _ _ h]
    show σ' D.ML = some (.mods ((List.range D.cm).map fun j => ((D.setM k N).m j).md))
    rw [e]; exact hp
  | m j =>
    have hj : j ≠ k := fun e => ho (by rw [e])
    intro hj'
    rw [DD.setM_ne _ _ hj]; exact hp hj'
  | _ => exact hp
theorem setE_part {b : Bool} {N : EN} : ∀ o', o' ≠ .e b → ∀ σ', Part D o' σ' → Part (D.setE b N) o' σ' := fun o' ho σ' hp => by
  cases o' with
  | e j =>
    have hj : j ≠ b := fun e => ho (by rw [e])
    show RE j ((D.setE b N).e j) σ'
    rw [DD.setE_ne _ _ hj]; exact hp
  | _ => exact hp
end
end Mine
namespace Mine
section
variable {prog : Program} {w : World} {D : DD} {h : Heap} {n n' : Led} {g : Heap} {k : Nat} {σ : Store} {b : Bool} {o o' ot : Obj}
/-- the fields of a state -/
theorem inv_bs (I : Inv prog w D n) (hk : k < D.cs) : ∃ o, ((D.s k).dx, o) ∈ n ∧ IsBS (D.s k).f o := (I.cell fun σ R => (R (.s k) hk).2.1).2
theorem inv_inst (I : Inv prog w D n) (hk : k < D.cs) : ((D.s k).x, instObj 117 (D.s k).dx) ∈ n ∧ (D.s k).x ≠ (D.s k).dx := by
  obtain ⟨h1, o, h2, rfl⟩ := I.cell fun σ R => (R (.s k) hk).1
  obtain ⟨σ, R, _⟩ := I
  exact ⟨h2, Rep.ne (R (.s k) hk).1 (R (.s k) hk).2.1 (by simp)⟩
theorem inv_bs_up {f' : BS} (I : Inv prog w D n) (hk : k < D.cs) (hm : ((D.s k).dx, o') ∈ n') (hb : IsBS f' o') (hT : f'.T = (D.s k).f.T) (hS : f'.S = (D.s k).f.S) (hkp : Kp n n' (D.s k).dx) :
    Inv prog w (D.setS k { D.s k with f := f' }) n' := by
  obtain ⟨σ, R, S⟩ := I
  obtain ⟨r1, r2, r3, r4, r5, r6⟩ := R (.s k) hk
  have hs := (S _ _ r2).1
  refine ⟨supd σ (D.s k).dx (.bs k f'), rep_up (o := .s k) R (fun c0 hc => by rw [r2] at hc; cases hc; rfl) (setS_part rfl) ?_, S.up hs hm hb hkp⟩
  intro _
  rw [DD.setS_self]
  exact ⟨supd_of r2 r1 (by simp), supd_self _ _ _, by show supd _ _ _ f'.T = _; rw [hT]; exact supd_of r2 r3 (by simp), by show supd _ _ _ f'.S = _; rw [hS]; exact supd_of r2 r4 (by simp), fun t ht => supd_of r2 (r5 t ht) (by simp), r6⟩
/-- the tokens of a state -/
theorem inv_toks (I : Inv prog w D n) (hk : k < D.cs) : ∃ c, ((D.s k).f.T, listOf (((D.s k).ts.map (·.a)).map Value.ref).toArray c) ∈ n := by
  obtain ⟨h1, o, h2, c, rfl⟩ := I.cell fun σ R => (R (.s k) hk).2.2.1
  exact ⟨c, h2⟩
theorem inv_push {t : Tk} {ts' : List Tk} (I : Inv prog w D n) (hk : k < D.cs) (hf : New n t.a) (ht : (t.a, ot) ∈ n') (htk : IsTok prog w t.ty t.tx ot) (hm : ((D.s k).f.T, o') ∈ n') (hr : IsRefs (ts'.map (·.a)) o')
    (hp : ts'.Perm (t :: (D.s k).ts)) (hkp : Kp n n' (D.s k).f.T) : Inv prog w (D.setS k { D.s k with ts := ts' }) n' := by
  obtain ⟨σ, R, S⟩ := I
  obtain ⟨r1, r2, r3, r4, r5, r6⟩ := R (.s k) hk
  have hs := (S _ _ r3).1
  have h0 := S.new hf
  have R1 : Rep D (supd σ t.a (.tok k t.ty t.tx)) := fun o => part_sub (R o) fun b c hb _ => supd_new h0 hb
  have hTt : (D.s k).f.T ≠ t.a := fun e => by rw [← e, r3] at h0; cases h0
  have r3' : supd σ t.a (.tok k t.ty t.tx) (D.s k).f.T = some (.toks k ((D.s k).ts.map (·.a))) := supd_new h0 r3
  have S2 : Sat prog w D.script (supd (supd σ t.a (.tok k t.ty t.tx)) (D.s k).f.T (.toks k (ts'.map (·.a)))) n' := fun b c1 hb => by
    by_cases h1 : b = (D.s k).f.T
    · subst h1
      rw [supd_self] at hb; cases hb
      exact ⟨hs, o', hm, hr⟩
    · rw [supd_ne h1] at hb
      by_cases h2 : b = t.a
      · subst h2
        rw [supd_self] at hb; cases hb
        exact ⟨hf.2, ot, ht, htk⟩
      · rw [supd_ne h2] at hb
        obtain ⟨e1, ob, e2, e3⟩ := S b c1 hb
        exact ⟨e1, ob, hkp _ e2 h1, e3⟩
  refine ⟨_, rep_up (o := .s k) R1 (fun c0 hc => by rw [r3'] at hc; cases hc; rfl) (setS_part rfl) ?_, S2⟩
  intro _
  rw [DD.setS_self]
  refine ⟨supd_of r3' (supd_new h0 r1) (by simp), supd_of r3' (supd_new h0 r2) (by simp), supd_self _ _ _, supd_of r3' (supd_new h0 r4) (by simp), fun u hu => ?_, ?_⟩
  · rcases List.mem_cons.mp (hp.mem_iff.mp hu) with rfl | hu
    · exact supd_of r3' (supd_self _ _ _) (by simp)
    · exact supd_of r3' (supd_new h0 (r5 u hu)) (by simp)
  · refine (hp.map (·.a)).nodup_iff.mpr (List.nodup_cons.mpr ⟨fun hm => ?_, r6⟩)
    obtain ⟨u, hu, e⟩ := List.mem_map.mp hm
    have := r5 u hu
    rw [show u.a = t.a from e, h0] at this; cases this
/-- the last token of a state -/
theorem inv_tok {r : List Tk} {t : Tk} (I : Inv prog w D n) (hk : k < D.cs) (hts : (D.s k).ts = r ++ [t]) : ∃ o, (t.a, o) ∈ n ∧ IsTok prog w t.ty t.tx o ∧ (t.a == sysModules) = false := by
  obtain ⟨h1, o, h2, h3⟩ := I.cell fun σ R => (R (.s k) hk).2.2.2.2.1 t (by rw [hts]; simp)
  exact ⟨o, h2, h3, h1⟩
theorem inv_tok_up {r : List Tk} {t : Tk} {tx' : Str} (I : Inv prog w D n) (hk : k < D.cs) (hts : (D.s k).ts = r ++ [t]) (hm : (t.a, o') ∈ n') (ht : IsTok prog w t.ty tx' o') (hkp : Kp n n' t.a) :
    Inv prog w (D.setS k { D.s k with ts := r ++ [{ t with tx := tx' }] }) n' := by
  obtain ⟨σ, R, S⟩ := I
  obtain ⟨r1, r2, r3, r4, r5, r6⟩ := R (.s k) hk
  have rt := r5 t (by rw [hts]; simp)
  have hs := (S _ _ rt).1
  refine ⟨supd σ t.a (.tok k t.ty tx'), rep_up (o := .s k) R (fun c0 hc => by rw [rt] at hc; cases hc; rfl) (setS_part rfl) ?_, S.up hs hm ht hkp⟩
  intro _
  rw [DD.setS_self]
  have e : (r ++ [{ t with tx := tx' }]).map (fun u : Tk => u.a) = (D.s k).ts.map (·.a) := by rw [hts]; simp
  refine ⟨supd_of rt r1 (by simp), supd_of rt r2 (by simp), by rw [e]; exact supd_of rt r3 (by simp), supd_of rt r4 (by simp), fun u hu => ?_, by rw [e]; exact r6⟩
  rcases List.mem_append.mp hu with hu | hu
  · have hne : u.a ≠ t.a := by
      rw [hts, List.map_append, List.nodup_append] at r6
      exact r6.2.2 u.a (List.mem_map_of_mem hu) t.a (by simp)
    rw [supd_ne hne]; exact r5 u (by rw [hts]; exact List.mem_append_left _ hu)
  · obtain rfl : u = { t with tx := tx' } := by simpa using hu
    exact supd_self _ _ _

/-- the dict of a model -/
theorem inv_md (I : Inv prog w D n) (hk : k < D.cm) : ∃ o, ((D.m k).md, o) ∈ n ∧ IsMD prog w (D.m k).src (D.m k).lim (D.m k).mt (D.m k).cur (D.m k).mz (D.m k).par (D.m k).env o := (I.cell fun σ R => (R (.m k) hk).1).2
theorem inv_md_up {src : Str} {lim cur : Int} (I : Inv prog w D n) (hk : k < D.cm) (hm : ((D.m k).md, o') ∈ n') (hb : IsMD prog w src lim (D.m k).mt cur (D.m k).mz (D.m k).par (D.m k).env o') (hkp : Kp n n' (D.m k).md) :
    Inv prog w (D.setM k { D.m k with src := src, lim := lim, cur := cur }) n' := by
  obtain ⟨σ, R, S⟩ := I
  obtain ⟨r1, r2, r3, r4, r5⟩ := R (.m k) hk
  have hs := (S _ _ r1).1
  refine ⟨supd σ (D.m k).md (.md k src lim (D.m k).mt cur (D.m k).mz (D.m k).par (D.m k).env), rep_up (o := .m k) R (fun c0 hc => by rw [r1] at hc; cases hc; rfl) (setM_part rfl) ?_, S.up hs hm hb hkp⟩
  intro _
  rw [DD.setM_self]
  exact ⟨supd_self _ _ _, supd_of r1 r2 (by simp), supd_of r1 r3 (by simp), fun t ht => supd_of r1 (r4 t ht) (by simp), r5⟩
theorem inv_mt (I : Inv prog w D n) (hk : k < D.cm) : ∃ c, ((D.m k).mt, listOf (((D.m k).ts.map (·.a)).map Value.ref).toArray c) ∈ n := by
  obtain ⟨h1, o, h2, c, rfl⟩ := I.cell fun σ R => (R (.m k) hk).2.1
  exact ⟨c, h2⟩
theorem inv_mpush {t : Tk} {ts' : List Tk} (I : Inv prog w D n) (hk : k < D.cm) (hf : New n t.a) (ht : (t.a, ot) ∈ n') (htk : IsTok prog w t.ty t.tx ot) (hm : ((D.m k).mt, o') ∈ n') (hr : IsRefs (ts'.map (·.a)) o')
    (hp : ts'.Perm (t :: (D.m k).ts)) (hkp : Kp n n' (D.m k).mt) : Inv prog w (D.setM k { D.m k with ts := ts' }) n' := by
  obtain ⟨σ, R, S⟩ := I
  obtain ⟨r1, r3, r4, r5, r6⟩ := R (.m k) hk
  have hs := (S _ _ r3).1
  have h0 := S.new hf
  have R1 : Rep D (supd σ t.a (.mtok k t.ty t.tx)) := fun o => part_sub (R o) fun b c hb _ => supd_new h0 hb
  have r3' : supd σ t.a (.mtok k t.ty t.tx) (D.m k).mt = some (.mt k ((D.m k).ts.map (·.a))) := supd_new h0 r3
  have S2 : Sat prog w D.script (supd (supd σ t.a (.mtok k t.ty t.tx)) (D.m k).mt (.mt k (ts'.map (·.a)))) n' := fun b c1 hb => by
    by_cases h1 : b = (D.m k).mt
    · subst h1
      rw [supd_self] at hb; cases hb
      exact ⟨hs, o', hm, hr⟩
    · rw [supd_ne h1] at hb
      by_cases h2 : b = t.a
      · subst h2
        rw [supd_self] at hb; cases hb
        exact ⟨hf.2, ot, ht, htk⟩
      · rw [supd_ne h2] at hb
        obtain ⟨e1, ob, e2, e3⟩ := S b c1 hb
        exact ⟨e1, ob, hkp _ e2 h1, e3⟩
  refine ⟨_, rep_up (o := .m k) R1 (fun c0 hc => by rw [r3'] at hc; cases hc; rfl) (setM_part rfl) ?_, S2⟩
  intro _
  rw [DD.setM_self]
  refine ⟨supd_of r3' (supd_new h0 r1) (by simp), supd_self _ _ _, supd_of r3' (supd_new h0 r4) (by simp), fun u hu => ?_, ?_⟩
  · rcases List.mem_cons.mp (hp.mem_iff.mp hu) with rfl | hu
    · exact supd_of r3' (supd_self _ _ _) (by simp)
    · exact supd_of r3' (supd_new h0 (r5 u hu)) (by simp)
  · refine (hp.map (·.a)).nodup_iff.mpr (List.nodup_cons.mpr ⟨fun hm => ?_, r6⟩)
    obtain ⟨u, hu, e⟩ := List.mem_map.mp hm
    have := r5 u hu
    rw [show u.a = t.a from e, h0] at this; cases this
/-- a new token list of a model, with a new token -/
theorem inv_mnew {t : Tk} {ts' : List Tk} {a : Addr} {ol od : Obj} (I : Inv prog w D n) (hk : k < D.cm) (hf : New n t.a) (hfa : New n a) (hne : t.a ≠ a) (ht : (t.a, ot) ∈ n') (htk : IsTok prog w t.ty t.tx ot) (hl : (a, ol) ∈ n') (hr : IsRefs (ts'.map (·.a)) ol)
    (hm : ((D.m k).md, od) ∈ n') (hd : IsMD prog w (D.m k).src (D.m k).lim a (D.m k).cur (D.m k).mz (D.m k).par (D.m k).env od)
    (hp : ts'.Perm (t :: (D.m k).ts)) (hkp : Kp n n' (D.m k).md) : Inv prog w (D.setM k { D.m k with mt := a, ts := ts' }) n' := by
  obtain ⟨σ, R, S⟩ := I
  obtain ⟨r1, r3, r4, r5, r6⟩ := R (.m k) hk
  have hs := (S _ _ r1).1
  have h0 := S.new hf
  have h0a := S.new hfa
  have h0a' : supd σ t.a (.mtok k t.ty t.tx) a = none := by rw [supd_ne (fun e => hne e.symm)]; exact h0a
  have R1 : Rep D (supd (supd σ t.a (.mtok k t.ty t.tx)) a (.mt k (ts'.map (·.a)))) := fun o => part_sub (R o) fun b c hb _ => supd_new h0a' (supd_new h0 hb)
  have r1' : supd (supd σ t.a (.mtok k t.ty t.tx)) a (.mt k (ts'.map (·.a))) (D.m k).md = some (.md k (D.m k).src (D.m k).lim (D.m k).mt (D.m k).cur (D.m k).mz (D.m k).par (D.m k).env) := supd_new h0a' (supd_new h0 r1)
  have S2 : Sat prog w D.script (supd (supd (supd σ t.a (.mtok k t.ty t.tx)) a (.mt k (ts'.map (·.a)))) (D.m k).md (.md k (D.m k).src (D.m k).lim a (D.m k).cur (D.m k).mz (D.m k).par (D.m k).env)) n' := fun b c1 hb => by
    by_cases h1 : b = (D.m k).md
    · subst h1
      rw [supd_self] at hb; cases hb
      exact ⟨hs, od, hm, hd⟩
    · rw [supd_ne h1] at hb
      by_cases h3 : b = a
      · subst h3
        rw [supd_self] at hb; cases hb
        exact ⟨hfa.2, ol, hl, hr⟩
      · rw [supd_ne h3] at hb
        by_cases h2 : b = t.a
        · subst h2
          rw [supd_self] at hb; cases hb
          exact ⟨hf.2, ot, ht, htk⟩
        · rw [supd_ne h2] at hb
          obtain ⟨e1, ob, e2, e3⟩ := S b c1 hb
          exact ⟨e1, ob, hkp _ e2 h1, e3⟩
  refine ⟨_, rep_up (o := .m k) R1 (fun c0 hc => by rw [r1'] at hc; cases hc; rfl) (setM_part rfl) ?_, S2⟩
  intro _
  rw [DD.setM_self]
  refine ⟨supd_self _ _ _, supd_of r1' (supd_self _ _ _) (by simp), supd_of r1' (supd_new h0a' (supd_new h0 r4)) (by simp), fun u hu => ?_, ?_⟩
  · rcases List.mem_cons.mp (hp.mem_iff.mp hu) with rfl | hu
    · exact supd_of r1' (by rw [supd_ne hne]; exact supd_self _ _ _) (by simp)
    · exact supd_of r1' (supd_new h0a' (supd_new h0 (r5 u hu))) (by simp)
  · refine (hp.map (·.a)).nodup_iff.mpr (List.nodup_cons.mpr ⟨fun hm => ?_, r6⟩)
    obtain ⟨u, hu, e⟩ := List.mem_map.mp hm
    have := r5 u hu
    rw [show u.a = t.a from e, h0] at this; cases this
theorem inv_mtok {r : List Tk} {t : Tk} (I : Inv prog w D n) (hk : k < D.cm) (hts : (D.m k).ts = r ++ [t]) : ∃ o, (t.a, o) ∈ n ∧ IsTok prog w t.ty t.tx o ∧ (t.a == sysModules) = false := by
  obtain ⟨h1, o, h2, h3⟩ := I.cell fun σ R => (R (.m k) hk).2.2.2.1 t (by rw [hts]; simp)
  exact ⟨o, h2, h3, h1⟩
theorem inv_mtok_up {r : List Tk} {t : Tk} {tx' : Str} (I : Inv prog w D n) (hk : k < D.cm) (hts : (D.m k).ts = r ++ [t]) (hm : (t.a, o') ∈ n') (ht : IsTok prog w t.ty tx' o') (hkp : Kp n n' t.a) :
    Inv prog w (D.setM k { D.m k with ts := r ++ [{ t with tx := tx' }] }) n' := by
  obtain ⟨σ, R, S⟩ := I
  obtain ⟨r1, r3, r4, r5, r6⟩ := R (.m k) hk
  have rt := r5 t (by rw [hts]; simp)
  have hs := (S _ _ rt).1
  refine ⟨supd σ t.a (.mtok k t.ty tx'), rep_up (o := .m k) R (fun c0 hc => by rw [rt] at hc; cases hc; rfl) (setM_part rfl) ?_, S.up hs hm ht hkp⟩
  intro _
  rw [DD.setM_self]
  have e : (r ++ [{ t with tx := tx' }]).map (fun u : Tk => u.a) = (D.m k).ts.map (·.a) := by rw [hts]; simp
  refine ⟨supd_of rt r1 (by simp), by rw [e]; exact supd_of rt r3 (by simp), supd_of rt r4 (by simp), fun u hu => ?_, by rw [e]; exact r6⟩
  rcases List.mem_append.mp hu with hu | hu
  · have hne : u.a ≠ t.a := by
      rw [hts, List.map_append, List.nodup_append] at r6
      exact r6.2.2 u.a (List.mem_map_of_mem hu) t.a (by simp)
    rw [supd_ne hne]; exact r5 u (by rw [hts]; exact List.mem_append_left _ hu)
  · obtain rfl : u = { t with tx := tx' } := by simpa using hu
    exact supd_self _ _ _

/-- the links -/
theorem inv_lk (I : Inv prog w D n) (b : Bool) : ∃ o, ((D.e b).sl, o) ∈ n ∧ IsLinks prog w (D.e b).kv o := (I.cell fun σ R => (R (.e b)).2.1).2
theorem inv_lk_up {kv' : List (Str × Int)} (I : Inv prog w D n) (hm : ((D.e b).sl, o') ∈ n') (hb : IsLinks prog w kv' o') (hkp : Kp n n' (D.e b).sl) : Inv prog w (D.setE b { D.e b with kv := kv' }) n' := by
  obtain ⟨σ, R, S⟩ := I
  obtain ⟨r1, r2, r3, r4⟩ := R (.e b)
  have hs := (S _ _ r2).1
  refine ⟨supd σ (D.e b).sl (.lk b kv'), rep_up (o := .e b) R (fun c0 hc => by rw [r2] at hc; cases hc; rfl) setE_part ?_, S.up hs hm hb hkp⟩
  show RE b ((D.setE b _).e b) _
  rw [DD.setE_self]
  exact ⟨supd_of r2 r1 (by simp), supd_self _ _ _, supd_of r2 r3 (by simp), supd_of r2 r4 (by simp)⟩
theorem inv_mlk (I : Inv prog w D n) (b : Bool) : ∃ o, ((D.e b).ml, o) ∈ n ∧ IsLinks prog w (D.e b).mkv o := (I.cell fun σ R => (R (.e b)).2.2.2).2
theorem inv_mlk_up {kv' : List (Str × Int)} (I : Inv prog w D n) (hm : ((D.e b).ml, o') ∈ n') (hb : IsLinks prog w kv' o') (hkp : Kp n n' (D.e b).ml) : Inv prog w (D.setE b { D.e b with mkv := kv' }) n' := by
  obtain ⟨σ, R, S⟩ := I
  obtain ⟨r1, r2, r3, r4⟩ := R (.e b)
  have hs := (S _ _ r4).1
  refine ⟨supd σ (D.e b).ml (.mlk b kv'), rep_up (o := .e b) R (fun c0 hc => by rw [r4] at hc; cases hc; rfl) setE_part ?_, S.up hs hm hb hkp⟩
  show RE b ((D.setE b _).e b) _
  rw [DD.setE_self]
  exact ⟨supd_of r4 r1 (by simp), supd_of r4 r2 (by simp), supd_of r4 r3 (by simp), supd_self _ _ _⟩
end
end Mine
namespace Mine
section
variable {prog : Program} {w : World} {D : DD} {h : Heap} {n n' : Led} {g : Heap} {k : Nat} {σ : Store} {b : Bool} {o o' ot : Obj}
theorem Inv.mono (I : Inv prog w D n) (hs : ∀ p ∈ n, p ∈ n') : Inv prog w D n' := let ⟨σ, R, S⟩ := I; ⟨σ, R, S.mono hs⟩
theorem New.sub {a : Addr} (hn : New n' a) (hs : ∀ p ∈ n, p.1 ∈ n'.map (·.1)) : New n a := ⟨fun hm => by obtain ⟨p, hp, rfl⟩ := List.mem_map.mp hm; exact hn.1 (hs p hp), hn.2⟩
theorem InvH.of {n : Led} (I : Inv prog w D n) (hq : ∀ p ∈ n, h.get? p.1 = some p.2) : InvH prog w D h := ⟨n, I, hq⟩
/-- a new state -/
theorem inv_snew {N : SN} {od oT oS oL : Obj} (I : Inv prog w D n) (hx : New n N.x) (hdx : New n N.dx) (hT : New n N.f.T) (hS : New n N.f.S) (h1 : N.x ≠ N.dx) (h2 : N.x ≠ N.f.T) (h3 : N.x ≠ N.f.S) (h4 : N.dx ≠ N.f.T) (h5 : N.dx ≠ N.f.S) (h6 : N.f.T ≠ N.f.S)
    (m1 : (N.x, instObj 117 N.dx) ∈ n') (m2 : (N.dx, od) ∈ n') (hb : IsBS N.f od) (m3 : (N.f.T, oT) ∈ n') (hT' : IsRefs [] oT) (m4 : (N.f.S, oS) ∈ n') (hS' : IsSet w N.lz oS) (hts : N.ts = [])
    (mL : (D.SL, oL) ∈ n') (hL : IsRefs (((List.range D.cs).map fun j => (D.s j).x) ++ [N.x]) oL) (hkp : Kp n n' D.SL) : Inv prog w { D.setS D.cs N with cs := D.cs + 1 } n' := by
  obtain ⟨σ, R, S⟩ := I
  have z1 := S.new hx
  have z2 := S.new hdx
  have z3 := S.new hT
  have z4 := S.new hS
  have rL := R .sl
  have hs := (S _ _ rL).1
  let σ1 := supd σ N.x (.inst D.cs N.dx)
  have y2 : σ1 N.dx = none := by show supd _ _ _ _ = _; rw [supd_ne h1.symm]; exact z2
  let σ2 := supd σ1 N.dx (.bs D.cs N.f)
  have y3 : σ2 N.f.T = none := by show supd _ _ _ _ = _; rw [supd_ne h4.symm]; show supd _ _ _ _ = _; rw [supd_ne h2.symm]; exact z3
  let σ3 := supd σ2 N.f.T (.toks D.cs [])
  have y4 : σ3 N.f.S = none := by show supd _ _ _ _ = _; rw [supd_ne h6.symm]; show supd _ _ _ _ = _; rw [supd_ne h5.symm]; show supd _ _ _ _ = _; rw [supd_ne h3.symm]; exact z4
  let σ4 := supd σ3 N.f.S (.set D.cs N.lz)
  have up : ∀ b c, σ b = some c → σ4 b = some c := fun b c hb => supd_new y4 (supd_new y3 (supd_new y2 (supd_new z1 hb)))
  have R4 : Rep D σ4 := fun o => part_sub (R o) fun b c hb _ => up b c hb
  have rL4 := up _ _ rL
  have e : (List.range (D.cs + 1)).map (fun j => ((D.setS D.cs N).s j).x) = ((List.range D.cs).map fun j => (D.s j).x) ++ [N.x] := by
    rw [List.range_succ, List.map_append]
    congr 1
    · refine List.map_congr_left fun j hj => ?_
      rw [DD.setS_ne _ _ (Nat.ne_of_lt (List.mem_range.mp hj))]
    · simp [DD.setS_self]
  refine ⟨supd σ4 D.SL (.insts (((List.range D.cs).map fun j => (D.s j).x) ++ [N.x])), fun o => ?_, fun b c1 hb => ?_⟩
  · cases o with
    | sl =>
      show supd _ _ _ D.SL = some (.insts ((List.range (D.cs + 1)).map fun j => ((D.setS D.cs N).s j).x))
      rw [e]; exact supd_self _ _ _
    | s j =>
      intro hj
      by_cases hjc : j = D.cs
      · subst hjc
        show RS D.cs ((D.setS D.cs N).s D.cs) _
        rw [DD.setS_self]
        refine ⟨supd_of rL4 (supd_new y4 (supd_new y3 (supd_new y2 (supd_self _ _ _)))) (by simp), supd_of rL4 (supd_new y4 (supd_new y3 (supd_self _ _ _))) (by simp), ?_, supd_of rL4 (supd_self _ _ _) (by simp), (by rw [hts]; intro t ht; cases ht), (by rw [hts]; exact List.nodup_nil)⟩
        rw [hts]
        exact supd_of rL4 (supd_new y4 (supd_self _ _ _)) (by simp)
      · show RS j ((D.setS D.cs N).s j) _
        rw [DD.setS_ne _ _ hjc]
        have hjl : j < D.cs := by have : j < D.cs + 1 := hj; omega
        exact part_sub (D := D) (o := .s j) (R4 (.s j)) (fun b c hb ho => supd_of rL4 hb (by intro e; subst e; cases ho)) hjl
    | box => exact part_sub (D := D) (o := .box) (R4 .box) fun b c hb ho => supd_of rL4 hb (by intro e; subst e; cases ho)
    | ml => exact part_sub (D := D) (o := .ml) (R4 .ml) fun b c hb ho => supd_of rL4 hb (by intro e; subst e; cases ho)
    | m j => exact part_sub (D := D) (o := .m j) (R4 (.m j)) fun b c hb ho => supd_of rL4 hb (by intro e; subst e; cases ho)
    | e b => exact part_sub (D := D) (o := .e b) (R4 (.e b)) fun b c hb ho => supd_of rL4 hb (by intro e; subst e; cases ho)
  · by_cases q0 : b = D.SL
    · subst q0; rw [supd_self] at hb; cases hb; exact ⟨hs, oL, mL, hL⟩
    rw [supd_ne q0] at hb
    by_cases q1 : b = N.f.S
    · subst q1; rw [show σ4 N.f.S = _ from supd_self _ _ _] at hb; cases hb; exact ⟨hS.2, oS, m4, hS'⟩
    rw [show σ4 b = σ3 b from supd_ne q1] at hb
    by_cases q2 : b = N.f.T
    · subst q2; rw [show σ3 N.f.T = _ from supd_self _ _ _] at hb; cases hb; exact ⟨hT.2, oT, m3, hT'⟩
    rw [show σ3 b = σ2 b from supd_ne q2] at hb
    by_cases q3 : b = N.dx
    · subst q3; rw [show σ2 N.dx = _ from supd_self _ _ _] at hb; cases hb; exact ⟨hdx.2, od, m2, hb⟩
    rw [show σ2 b = σ1 b from supd_ne q3] at hb
    by_cases q4 : b = N.x
    · subst q4; rw [show σ1 N.x = _ from supd_self _ _ _] at hb; cases hb; exact ⟨hx.2, _, m1, rfl⟩
    rw [show σ1 b = σ b from supd_ne q4] at hb
    obtain ⟨e1, ob, e2, e3⟩ := S b c1 hb
    exact ⟨e1, ob, hkp _ e2 q0, e3⟩
/-- a new model -/
theorem inv_mnew2 {N : MN} {od oT oS oL : Obj} (I : Inv prog w D n) (hdx : New n N.md) (hT : New n N.mt) (hS : New n N.mz) (h4 : N.md ≠ N.mt) (h5 : N.md ≠ N.mz) (h6 : N.mt ≠ N.mz)
    (m2 : (N.md, od) ∈ n') (hbd : IsMD prog w N.src N.lim N.mt N.cur N.mz N.par N.env od) (m3 : (N.mt, oT) ∈ n') (hT' : IsRefs [] oT) (m4 : (N.mz, oS) ∈ n') (hS' : IsIntL N.lz oS) (hts : N.ts = [])
    (mL : (D.ML, oL) ∈ n') (hL : IsRefs (((List.range D.cm).map fun j => (D.m j).md) ++ [N.md]) oL) (hkp : Kp n n' D.ML) : Inv prog w { D.setM D.cm N with cm := D.cm + 1 } n' := by
  obtain ⟨σ, R, S⟩ := I
  have z2 := S.new hdx
  have z3 := S.new hT
  have z4 := S.new hS
  have rL := R .ml
  have hs := (S _ _ rL).1
  let σ2 := supd σ N.md (.md D.cm N.src N.lim N.mt N.cur N.mz N.par N.env)
  have y3 : σ2 N.mt = none := by show supd _ _ _ _ = _; rw [supd_ne h4.symm]; exact z3
  let σ3 := supd σ2 N.mt (.mt D.cm [])
  have y4 : σ3 N.mz = none := by show supd _ _ _ _ = _; rw [supd_ne h6.symm]; show supd _ _ _ _ = _; rw [supd_ne h5.symm]; exact z4
  let σ4 := supd σ3 N.mz (.mz D.cm N.lz)
  have up : ∀ b c, σ b = some c → σ4 b = some c := fun b c hb => supd_new y4 (supd_new y3 (supd_new z2 hb))
  have R4 : Rep D σ4 := fun o => part_sub (R o) fun b c hb _ => up b c hb
  have rL4 := up _ _ rL
  have e : (List.range (D.cm + 1)).map (fun j => ((D.setM D.cm N).m j).md) = ((List.range D.cm).map fun j => (D.m j).md) ++ [N.md] := by
    rw [List.range_succ, List.map_append]
    congr 1
    · refine List.map_congr_left fun j hj => ?_
      rw [DD.setM_ne _ _ (Nat.ne_of_lt (List.mem_range.mp hj))]
    · simp [DD.setM_self]
  refine ⟨supd σ4 D.ML (.mods (((List.range D.cm).map fun j => (D.m j).md) ++ [N.md])), fun o => ?_, fun b c1 hb => ?_⟩
  · cases o with
    | ml =>
      show supd _ _ _ D.ML = some (.mods ((List.range (D.cm + 1)).map fun j => ((D.setM D.cm N).m j).md))
      rw [e]; exact supd_self _ _ _
    | m j =>
      intro hj
      by_cases hjc : j = D.cm
      · subst hjc
        show RM D.cm ((D.setM D.cm N).m D.cm) _
        rw [DD.setM_self]
        refine ⟨supd_of rL4 (supd_new y4 (supd_new y3 (supd_self _ _ _))) (by simp), ?_, supd_of rL4 (supd_self _ _ _) (by simp), (by rw [hts]; intro t ht; cases ht), (by rw [hts]; exact List.nodup_nil)⟩
        rw [hts]
        exact supd_of rL4 (supd_new y4 (supd_self _ _ _)) (by simp)
      · show RM j ((D.setM D.cm N).m j) _
        rw [DD.setM_ne _ _ hjc]
        have hjl : j < D.cm := by have : j < D.cm + 1 := hj; omega
        exact part_sub (D := D) (o := .m j) (R4 (.m j)) (fun b c hb ho => supd_of rL4 hb (by intro e; subst e; cases ho)) hjl
    | box => exact part_sub (D := D) (o := .box) (R4 .box) fun b c hb ho => supd_of rL4 hb (by intro e; subst e; cases ho)
    | sl => exact part_sub (D := D) (o := .sl) (R4 .sl) fun b c hb ho => supd_of rL4 hb (by intro e; subst e; cases ho)
    | s j => exact part_sub (D := D) (o := .s j) (R4 (.s j)) fun b c hb ho => supd_of rL4 hb (by intro e; subst e; cases ho)
    | e b => exact part_sub (D := D) (o := .e b) (R4 (.e b)) fun b c hb ho => supd_of rL4 hb (by intro e; subst e; cases ho)
  · by_cases q0 : b = D.ML
    · subst q0; rw [supd_self] at hb; cases hb; exact ⟨hs, oL, mL, hL⟩
    rw [supd_ne q0] at hb
    by_cases q1 : b = N.mz
    · subst q1; rw [show σ4 N.mz = _ from supd_self _ _ _] at hb; cases hb; exact ⟨hS.2, oS, m4, hS'⟩
    rw [show σ4 b = σ3 b from supd_ne q1] at hb
    by_cases q2 : b = N.mt
    · subst q2; rw [show σ3 N.mt = _ from supd_self _ _ _] at hb; cases hb; exact ⟨hT.2, oT, m3, hT'⟩
    rw [show σ3 b = σ2 b from supd_ne q2] at hb
    by_cases q3 : b = N.md
    · subst q3; rw [show σ2 N.md = _ from supd_self _ _ _] at hb; cases hb; exact ⟨hdx.2, od, m2, hbd⟩
    rw [show σ2 b = σ b from supd_ne q3] at hb
    obtain ⟨e1, ob, e2, e3⟩ := S b c1 hb
    exact ⟨e1, ob, hkp _ e2 q0, e3⟩

/-- a store out of a list of cells -/
structure SatL (prog : Program) (w : World) (script : Addr) (cs : List (Addr × Cell)) (n : Led) : Prop where
  at_ : ∀ c ∈ cs, (c.1 == sysModules) = false ∧ ∃ o, (c.1, o) ∈ n ∧ c.2.holds prog w script o
  nd : (cs.map (·.1)).Nodup
theorem SatL.nil {script : Addr} : SatL prog w script [] n := ⟨(fun _ h => nomatch h), List.nodup_nil⟩
theorem SatL.add {script a : Addr} {c : Cell} {cs : List (Addr × Cell)} (S : SatL prog w script cs n) (hn : New n a) (hm : (a, o) ∈ n') (hh : c.holds prog w script o) (hs : ∀ p ∈ n, p ∈ n') : SatL prog w script ((a, c) :: cs) n' := by
  refine ⟨fun d hd => ?_, List.nodup_cons.mpr ⟨fun hm => ?_, S.nd⟩⟩
  · rcases List.mem_cons.mp hd with rfl | hd
    · exact ⟨hn.2, o, hm, hh⟩
    · obtain ⟨h1, ob, h2, h3⟩ := S.at_ d hd; exact ⟨h1, ob, hs _ h2, h3⟩
  · obtain ⟨d, hd, e⟩ := List.mem_map.mp hm
    obtain ⟨_, ob, h2, _⟩ := S.at_ d hd
    exact hn.1 (by rw [← show d.1 = a from e]; exact List.mem_map_of_mem h2)
theorem SatL.mono {script : Addr} {cs : List (Addr × Cell)} (S : SatL prog w script cs n) (hs : ∀ p ∈ n, p ∈ n') : SatL prog w script cs n' :=
  ⟨fun d hd => by obtain ⟨h1, ob, h2, h3⟩ := S.at_ d hd; exact ⟨h1, ob, hs _ h2, h3⟩, S.nd⟩
def storeOf : List (Addr × Cell) → Store
  | [] => fun _ => none
  | p :: r => fun a => if a = p.1 then some p.2 else storeOf r a
theorem storeOf_mem : ∀ {cs : List (Addr × Cell)}, (cs.map (·.1)).Nodup → ∀ {a : Addr} {c : Cell}, (a, c) ∈ cs → storeOf cs a = some c
  | p :: r, nd, a, c, hm => by
    obtain ⟨h1, h2⟩ := List.nodup_cons.mp nd
    rcases List.mem_cons.mp hm with rfl | hm
    · exact if_pos rfl
    · have hne : a ≠ p.1 := fun e => h1 (by show p.1 ∈ _; rw [← e]; exact List.mem_map_of_mem (f := Prod.fst) hm)
      show (if a = p.1 then some p.2 else storeOf r a) = _
      rw [if_neg hne]; exact storeOf_mem h2 hm
theorem storeOf_inv : ∀ {cs : List (Addr × Cell)} {a : Addr} {c : Cell}, storeOf cs a = some c → (a, c) ∈ cs
  | [], _, _, h => nomatch h
  | p :: r, a, c, h => by
    by_cases e : a = p.1
    · rw [show storeOf (p :: r) a = some p.2 from if_pos e] at h
      cases h; subst e; exact .head _
    · rw [show storeOf (p :: r) a = storeOf r a from if_neg e] at h
      exact .tail _ (storeOf_inv h)
theorem SatL.inv {cs : List (Addr × Cell)} (S : SatL prog w D.script cs n) (R : (∀ a c, (a, c) ∈ cs → storeOf cs a = some c) → Rep D (storeOf cs)) : Inv prog w D n :=
  ⟨storeOf cs, R fun a c hm => storeOf_mem S.nd hm, fun a c hc => S.at_ (a, c) (storeOf_inv hc)⟩
end
end Mine
namespace Mine
theorem fill_frag9 : (PySem.Challenge.rw_bq5015_01, hd.heap_39) = (PySem.Challenge.rw_bq5015_01, hd.heap_39) := by k_fill; rfl
local macro_rules | `(tactic| walk_at "enter") => `(tactic| ((case ho => k_is); (case hcd => k_is); (case hbind => exact fun s _ => BindsTo.of_eq rfl); (case hloc => exact locs rfl); (case c2 => exact rfl); (case c3 => exact rfl); (case c4 => exact rfl); (case c5 => decide)))
abbrev tyx (t : Tk) : Str × Str := (t.ty, t.tx)
/-- a state and its model alike -/
structure NodeA (N : SN) (M : MN) (b : Nat) : Prop where
  src : N.f.src = M.src
  mem : M.src ∈ texts
  sl : N.f.lim = M.src.length
  ml : M.lim = M.src.length
  cur : N.f.cur = M.cur
  c0 : 0 ≤ M.cur
  c1 : M.cur < 13
  ts : N.ts.map tyx = M.ts.map tyx
  tl : M.ts.length ≤ b
  tx : ∀ t ∈ M.ts, t.tx.length ≤ 20 * b
  lz : N.lz = M.lz
  lk : M.lz = [] ∨ M.lz = [0] ∨ M.lz = [1, 4]
/-- how the nodes hang together -/
structure NodeL (s : Nat → SN) (m : Nat → MN) (e : Bool → EN) (k : Nat) : Prop where
  se : (s k).f.env = (e (m k).ev).se
  me : (m k).env = (e (m k).ev).me
  p0 : (m k).par = none → (s k).f.par = none
  p1 : ∀ p, (m k).par = some p → p < k ∧ (s k).f.par = some (s p).x ∧ (m p).ev = (m k).ev
structure EnvA (N : EN) (b : Nat) : Prop where
  kv : N.kv = N.mkv
  kl : N.mkv.length ≤ b
  kn : (N.mkv.map (·.1)).Nodup
structure Good (D : DD) (b pl : Nat) : Prop where
  c2 : 2 ≤ D.cs
  c6 : D.cs ≤ 6
  cm : D.cm = D.cs
  pl0 : 0 ≤ D.place
  pl1 : D.place ≤ pl
  m0 : 0 ≤ D.mix
  m1 : D.mix < 2147483647
  na : ∀ k, k < D.cs → NodeA (D.s k) (D.m k) b
  nl : ∀ k, k < D.cs → NodeL D.s D.m D.e k
  ea : ∀ e, EnvA (D.e e) b
  e0 : (D.m 0).ev = false
  e1 : (D.m 1).ev = true
section
variable {prog : Program} {w : World} {D : DD} {h : Heap} {n n' : Led} {g : Heap} {k : Nat} {σ : Store} {b : Nat} {A : Around} {s : Shared} {L : Addr} {m : Str → Option Value}
inductive MChain (D : DD) : Nat → Nat → Prop
  | none {k : Nat} : (D.m k).par = none → MChain D k 0
  | some {k p d : Nat} : (D.m k).par = some p → p < D.cm → MChain D p d → MChain D k (d + 1)
theorem chains {pl : Nat} (G : Good D b pl) : ∀ k, k < D.cs → ∃ d, d ≤ k ∧ MChain D k d ∧ (∀ h, InvH prog w D h → Chain h (D.s k).f.par d) := by
  intro k
  induction k using Nat.strongRecOn with
  | ind k ih =>
    intro hk
    have N := G.nl k hk
    cases hp : (D.m k).par with
    | none => exact ⟨0, Nat.zero_le _, .none hp, fun h I => by rw [N.p0 hp]; exact .none⟩
    | some p =>
      obtain ⟨h1, h2, h3⟩ := N.p1 p hp
      obtain ⟨d, hd, hm, hc⟩ := ih p h1 (by omega)
      exact ⟨d + 1, by omega, .some hp (by rw [G.cm]; omega) hm, fun h I => by rw [h2]; exact .some (rd_bs I (by omega)) (hc h I)⟩

/-- two tokens alike -/
theorem tok_eq {a a' : Addr} {ty tx : Str} (h1 : TokAt prog w s.heap a ty tx) (h2 : TokAt prog w s.heap a' ty tx) (hs1 : (a == sysModules) = false) (hs2 : (a' == sysModules) = false) (hu : A.units < cLine) {E : Value → Shared → Prop} {Q : Value → Shared → Prop} (hQ : Q (.bool true) s) :
    wpAny (model prog w) A (compareOp .Eq (.ref a) (.ref a')) Q E s := by
  obtain ⟨o, ho, t1, t2, hd⟩ := h1
  obtain ⟨o', ho', u1, u2, hd'⟩ := h2
  have d1 : s.heap.DictOf (strKind prog w) a _ := Heap.dictOf_iff.mpr ⟨o, ho, hd⟩
  have d2 : s.heap.DictOf (strKind prog w) a' _ := Heap.dictOf_iff.mpr ⟨o', ho', hd'⟩
  refine keq_eq (r := (ty == ty) && ((tx == tx) && true)) hs1 hs2 d1 d2 hu (fun _ => .hit (y := .str ty u1) rfl (SeqAt.EqAt.str_str _ _ _ _) (.hit (y := .str tx u2) rfl (SeqAt.EqAt.str_str _ _ _ _) .nil)) ?_
  simpa using hQ
theorem tok_eqOf {a a' : Addr} {ty tx : Str} (h1 : TokAt prog w s.heap a ty tx) (h2 : TokAt prog w s.heap a' ty tx) (hs1 : (a == sysModules) = false) (hs2 : (a' == sysModules) = false) (hne : a ≠ a') (hu : A.units < cLine) : EqOf prog w A s (.ref a) (.ref a') :=
  .refs hne fun E Q q => tok_eq h1 h2 hs1 hs2 hu q
theorem KVs.keys : ∀ {a : List (Str × Value)} {kv : List (Str × Int)}, KVs a kv → a.map (·.1) = kv.map (·.1)
  | _, _, .nil => rfl
  | _, _, .cons k i t h => by simp [h.keys]
theorem KVs.length : ∀ {a : List (Str × Value)} {kv : List (Str × Int)}, KVs a kv → a.length = kv.length
  | _, _, .nil => rfl
  | _, _, .cons k i t h => by simp [h.length]
theorem kvs_at : ∀ {a : List (Str × Value)} {kv : List (Str × Int)}, KVs a kv → (kv.map (·.1)).Nodup → ∀ {k : Str} {i : Int}, (k, i) ∈ kv → ∃ t, valueAt a k = some (.int i t)
  | _, _, .cons k0 i0 t h, nd, k, i, hm => by
    obtain ⟨h1, h2⟩ := List.nodup_cons.mp nd
    rcases List.mem_cons.mp hm with e | hm
    · cases e; exact ⟨t, by simp [valueAt]⟩
    · have hne : k0 ≠ k := fun e => h1 (by show k0 ∈ _; rw [e]; exact List.mem_map_of_mem (f := Prod.fst) hm)
      obtain ⟨u, hu⟩ := kvs_at h h2 hm
      exact ⟨u, by rw [← hu]; simp [valueAt, hne]⟩
theorem kvs_hits {kb : List (Str × Value)} {kv : List (Str × Int)} (hb : KVs kb kv) (nd : (kv.map (·.1)).Nodup) : ∀ {a : List (Str × Value)} {l : List (Str × Int)}, KVs a l → (∀ p ∈ l, p ∈ kv) → KeqHits A s kb a true
  | _, _, .nil, _ => .nil
  | _, _, .cons k i t h, hs => by
    obtain ⟨u, hu⟩ := kvs_at hb nd (hs _ (.head _))
    have := KeqHits.hit (A := A) (s := s) (v := .int i t) (e := (i == i)) hu (SeqAt.EqAt.int_int i t i u) (kvs_hits hb nd h fun p hp => hs p (.tail _ hp))
    simpa using this
theorem lk_eqOf {a a' : Addr} {kv : List (Str × Int)} {va vb : List (Str × Value)} (nd : (kv.map (·.1)).Nodup) (h1 : KVs va kv) (h2 : KVs vb kv) (d1 : s.heap.DictOf (strKind prog w) a va) (d2 : s.heap.DictOf (strKind prog w) a' vb) (hs1 : (a == sysModules) = false) (hs2 : (a' == sysModules) = false) (hne : a ≠ a') (hu : A.units < cLine) :
    EqOf prog w A s (.ref a) (.ref a') := .refs hne fun E Q q => by
  show wpAny _ _ (compareOp .Eq (.ref a) (.ref a')) _ _ _
  refine keq_eq (r := true) hs1 hs2 d1 d2 hu (fun _ => kvs_hits h2 nd h1 fun p hp => hp) ?_
  rw [h1.length, h2.length]; simpa using q
/-- two lists of ints -/
theorem ints_eqOf {vs us : List Value} {l : List Int} (h1 : IntsAre vs l) (h2 : IntsAre us l) : ∀ j (a : j < vs.toArray.size) (c : j < us.toArray.size), EqOf prog w A s vs.toArray[j] us.toArray[j] := fun j a c => by
  obtain ⟨t, ht⟩ := h1.int_at j vs[j] (List.getElem?_eq_getElem (by simpa using a))
  obtain ⟨u, hu⟩ := h2.int_at j us[j] (List.getElem?_eq_getElem (by simpa using c))
  have := EqOf.at (prog := prog) (w := w) (A := A) (s := s) (y := vs[j]'(by simpa using a)) (x := us[j]'(by simpa using c)) (by
    rw [ht, hu]
    have := SeqAt.EqAt.int_int (A := A) (s := s) (l.getD j 0) t (l.getD j 0) u
    simpa using this)
  simpa using this
theorem sorted_is {ns l : List Int} (hp : ns.Perm l) (hs : ns.Pairwise (· ≤ ·)) (hl : l = [] ∨ l = [0] ∨ l = [1, 4]) : ns = l := by
  refine hp.eq_of_pairwise ?_ hs ?_
  · intro a b _ _ h1 h2; omega
  · rcases hl with rfl | rfl | rfl <;> simp
section
variable {env : Env} {pos : Pos} {l r x : Expr} {rest : List Expr} {whole : Sem Value}
theorem tr_orF {P P' : Led → Prop} (h : Tr prog w A g L m n (isTrue x env (eval x env)) (fun c n1 => c = false ∧ P n1)) (h' : ∀ n1, P n1 → Tr prog w A g L m n1 (isTrue (.BoolOp .Or rest pos) env whole) (fun c n2 => c = false ∧ P' n2)) :
    Tr prog w A g L m n (isTrue (.BoolOp .Or (x :: rest) pos) env whole) (fun c n2 => c = false ∧ P' n2) :=
  ⟨fun s Q E F N k => isTrue_or (h.go s _ E F N fun c h1 tk n1 p F1 N1 => by obtain ⟨rfl, p⟩ := p; simp only [Bool.false_eq_true, if_false]; exact (h' n1 p).go _ Q E F1 N1 k)⟩
theorem tr_testCmp {op : CmpOp} {Pl : Value → Led → Prop} {Pr : Value → Value → Led → Prop} {P : Led → Prop} {c : Bool} (hl : Tr prog w A g L m n (eval l env) Pl)
    (hr : ∀ a n1, Pl a n1 → Tr prog w A g L m n1 (eval r env) (Pr a)) (ho : ∀ a v n2, Pr a v n2 → Tr prog w A g L m n2 (compareOp op a v) (fun u n3 => u = .bool c ∧ P n3))
    (hm : behindInMarks op r = false := by with_unfolding_all rfl) : Tr prog w A g L m n (isTrue (.Compare l [op] [r] pos) env whole) (fun d n3 => d = c ∧ P n3) :=
  ⟨fun s Q E F N k => wpAny_isTrue_Compare1 (hl.go s _ E F N fun va h1 tk1 n1 p1 F1 N1 => (hr va n1 p1).go _ _ E F1 N1 fun vb h2 tk2 n2 p2 F2 N2 => (ho va vb n2 p2).go _ _ E F2 N2 fun u h3 tk3 n3 p3 F3 N3 => by
    obtain ⟨rfl, p3⟩ := p3
    exact wpAny_truthy_bool (k c h3 tk3 n3 ⟨rfl, p3⟩ F3 N3)) hm⟩
end
end
end Mine
namespace Mine
theorem fill_frag10 : (PySem.Challenge.rw_bq5015_01, hd.heap_39) = (PySem.Challenge.rw_bq5015_01, hd.heap_39) := by k_fill; rfl
local macro_rules | `(tactic| walk_at "enter") => `(tactic| ((case ho => k_is); (case hcd => k_is); (case hbind => exact fun s _ => BindsTo.of_eq rfl); (case hloc => exact locs rfl); (case c2 => exact rfl); (case c3 => exact rfl); (case c4 => exact rfl); (case c5 => decide)))
section
variable {prog : Program} {w : World} {D : DD} {h : Heap} {n n' : Led} {g : Heap} {k : Nat} {σ : Store} {b : Nat} {A : Around} {s : Shared} {L : Addr} {m : Str → Option Value} {env : Env} {pos : Pos} {value slice : Expr}
theorem refs_at {c : Nat} {f : Nat → Addr} (hk : k < c) : (((List.range c).map f).map Value.ref).toArray[((k : Int)).toNat]? = some (.ref (f k)) := by simp [hk]
/-- models[k] -/
theorem pu_model (I : Kno g n (InvH prog w D)) (hk : k < D.cm) (h6 : D.cm ≤ 1000) (hv : Pu prog w A g L m n (eval value env) (· = .ref D.ML)) (hi : Pu prog w A g L m n (eval slice env) (IsI k))
    (hs : ∀ u, subscripted slice false (.ref D.ML) (.int k u) = operate [.ref D.ML, .int k u] (getItem (.ref D.ML) (.int k u)) := by intro _; with_unfolding_all rfl) :
    Pu prog w A g L m n (eval (.Subscript value slice pos) env) (· = .ref (D.m k).md) :=
  pu_item (I.imp fun h i => rd_models i) (by omega) (by omega) (refs_at hk) rfl hv hi hs
/-- states[k] -/
theorem pu_state (I : Kno g n (InvH prog w D)) (hk : k < D.cs) (h6 : D.cs ≤ 1000) (hv : Pu prog w A g L m n (eval value env) (· = .ref D.SL)) (hi : Pu prog w A g L m n (eval slice env) (IsI k))
    (hs : ∀ u, subscripted slice false (.ref D.SL) (.int k u) = operate [.ref D.SL, .int k u] (getItem (.ref D.SL) (.int k u)) := by intro _; with_unfolding_all rfl) :
    Pu prog w A g L m n (eval (.Subscript value slice pos) env) (· = .ref (D.s k).x) :=
  pu_item (I.imp fun h i => rd_states i) (by omega) (by omega) (refs_at hk) rfl hv hi hs
/-- model[key] -/
theorem pu_mkey {x : Str} {P : Value → Prop} (I : Kno g n (InvH prog w D)) (hk : k < D.cm) (hx : ∀ t1 t2 t3 t4, ∃ v, valueAt (mdKv (D.m k).src (D.m k).lim (D.m k).mt (D.m k).cur (D.m k).mz (D.m k).par (D.m k).env t1 t2 t3 t4) x = some v ∧ P v)
    (hv : Pu prog w A g L m n (eval value env) (· = .ref (D.m k).md)) (hi : Pu prog w A g L m n (eval slice env) (IsS x))
    (hs : ∀ u, subscripted slice false (.ref (D.m k).md) (.str x u) = operate [.ref (D.m k).md, .str x u] (getItem (.ref (D.m k).md) (.str x u)) := by intro _; with_unfolding_all rfl) :
    Pu prog w A g L m n (eval (.Subscript value slice pos) env) P :=
  pu_Subscript hv hi fun o i e e' => by
    obtain ⟨u, rfl⟩ := e'; subst e
    exact pu_of fun s _ _ F N kk => by
      obtain ⟨t1, t2, t3, t4, hD⟩ := rd_md (I.here F N) hk
      obtain ⟨v, hv, hP⟩ := hx t1 t2 t3 t4
      exact tail_any hD.typeIs slot_dict_getitem.lookup (wpAny_getItem_of (strKind_is prog w x u) hD.mapOf hv (kk v _ hP)) (hs u)
abbrev sCount : Str := Str.ofString "count"
abbrev sModels : Str := Str.ofString "models"
def IsPar (p : Option Nat) (v : Value) : Prop := ∃ t, v = parV t p
theorem s_law_depth {kv : Value} {d : Nat} (hk : IsI k kv) (hc : MChain D k d) (hkc : k < D.cm) (h6 : D.cm ≤ 1000) :
    FSpec prog w (.ref 158) [.ref D.ML, kv] 1 [] (fun h => InvH prog w D h) (fun v _ => IsI d v) := by
  refine' fspec_of_body (binds := [(Str.ofString "models", .ref D.ML), (Str.ofString "k", kv)]) ?ho ?hcd ?hbind ?hloc ?hb ?c2 ?c3 ?c4 ?c5
  walk_at "enter"
  rintro A g L hR hB I _
  have IK : ∀ {n}, Kno g n (InvH prog w D) := Kno.of I fun h h' k b => b.keeps k
  refine sx_letPu pu_int fun v0 h0 => ?_
  refine sx_while (fun j m n => n = [] ∧ ∃ (i : Nat) (v kv : Value) (kk : Nat), m sModels = some (.ref D.ML) ∧ m sCount = some v ∧ m sK = some kv ∧ IsI kk kv ∧ IsI i v ∧ kk < D.cm ∧ MChain D kk j ∧ i + j = d) (D := fun m n => ∃ v, m sCount = some v ∧ IsI d v) d
    ⟨rfl, 0, v0, kv, k, rfl, rfl, rfl, hk, h0, hkc, hc, by omega⟩ ?_ ?_
  · rintro j m n ⟨rfl, i, v, kv, kk, hm1, hm2, hm3, hkv, hv, hlt, hch, hij⟩
    cases hch with
    | none hp =>
      right
      refine ⟨pu_testCmp (pu_mkey (P := IsPar (D.m kk).par) IK hlt (fun t1 t2 t3 t4 => ⟨_, rfl, t4, rfl⟩) (pu_model IK hlt h6 (pu_local hm1 rfl) (pu_local hm3 hkv)) pu_str) pu_none fun a b ha hb => (c_notNone hb).to ?_, v, hm2, ?_⟩
      · obtain ⟨t, rfl⟩ := ha; rw [hp]; rfl
      · have : i = d := by omega
        subst this; exact hv
    | some hp hplt hch =>
      left
      rename_i p j'
      refine ⟨pu_testCmp (pu_mkey (P := IsPar (D.m kk).par) IK hlt (fun t1 t2 t3 t4 => ⟨_, rfl, t4, rfl⟩) (pu_model IK hlt h6 (pu_local hm1 rfl) (pu_local hm3 hkv)) pu_str) pu_none fun a b ha hb => (c_notNone hb).to ?_, ?_⟩
      · obtain ⟨t, rfl⟩ := ha; rw [hp]; rfl
      · refine sx_letPu (pu_add (pu_local hm2 hv) pu_int) fun v' hv' => ?_
        refine sx_letPu (P := IsPar (D.m kk).par) (pu_mkey IK hlt (fun t1 t2 t3 t4 => ⟨_, rfl, t4, rfl⟩) (pu_model IK hlt h6 (pu_local (show m sModels = _ from hm1) rfl) (pu_local (show m sK = _ from hm3) hkv)) pu_str) fun k' hk' => ?_
        obtain ⟨t, rfl⟩ := hk'
        rw [hp]
        exact sx_nil ⟨j', by omega, rfl, i + 1, v', .int p t, p, hm1, rfl, rfl, ⟨t, rfl⟩, hv', hplt, hch, by omega⟩
  · rintro m n ⟨v, hmd, hv⟩
    exact sx_retPu (pu_local hmd hv) fun v e => e
/-- the last of a list, or nothing -/
theorem s_law_last {l : Addr} {vs : List Value} (hz : vs.length ≤ 1000) : FSpec prog w (.ref 165) [.ref l] 1 [] (fun h => h.IsList l vs.toArray) (fun v _ => v = lastV vs) := by
  refine' fspec_of_body (binds := [(Str.ofString "tokens", .ref l)]) ?ho ?hcd ?hbind ?hloc ?hb ?c2 ?c3 ?c4 ?c5
  walk_at "enter"
  rintro A g L hR hB hl _
  have hT : ∀ {n}, Kno g n (fun h => h.IsList l vs.toArray) := Kno.of hl fun h h' k b => b.at fun o e => k _ _ e
  have hz' : (vs.toArray.size : Int) < 2 ^ 60 := by simp; omega
  rcases List.eq_nil_or_concat vs with rfl | ⟨r, v, rfl⟩
  · exact sx_retPu (P := (· = .none)) (pu_IfF (pu_test (pu_local (P := (· = .ref l)) rfl rfl) fun v e => by subst e; exact t_list hT hz') pu_none) fun v e => e
  · refine sx_retPu (P := (· = v)) (pu_IfT (pu_test (pu_local (P := (· = .ref l)) rfl rfl) fun v e => by subst e; exact (t_list hT hz').mono (by simp))
      (pu_itemNeg (k := -1) hT (by decide) (by simp; omega) (by decide) (v := v) (by
        have e : (-1 + ((r.length : Int) + 1)).toNat = r.length := by omega
        simp [e]) rfl (pu_local rfl rfl) (pu_neg pu_int))) fun u e => ?_
    show retv _ = _
    subst e; simp [retv, lastV]
end
end Mine
namespace Mine
theorem fill_frag11 : (PySem.Challenge.rw_bq5015_01, hd.heap_39) = (PySem.Challenge.rw_bq5015_01, hd.heap_39) := by k_fill; rfl
local macro_rules | `(tactic| walk_at "enter") => `(tactic| ((case ho => k_is); (case hcd => k_is); (case hbind => exact fun s _ => BindsTo.of_eq rfl); (case hloc => exact locs rfl); (case c2 => exact rfl); (case c3 => exact rfl); (case c4 => exact rfl); (case c5 => decide)))
section
variable {prog : Program} {w : World} {D : DD} {h : Heap} {n n' : Led} {g : Heap} {k : Nat} {σ : Store} {b : Nat} {A : Around} {s : Shared} {L : Addr} {m : Str → Option Value} {env : Env} {pos : Pos} {value slice : Expr}
/-- a new model -/
theorem s_made {x : Str} {xv pv : Value} {par : Option Nat} {mz ev : Addr} (hx : IsS x xv) (hp : IsPar par pv) (hz : x.length ≤ 1000) :
    FSpec prog w (.ref 151) [xv, pv, .ref mz, .ref ev] 1 [] (fun _ => True)
      (fun v n' => ∃ md mt o, v = .ref md ∧ (md, o) ∈ n' ∧ IsMD prog w x x.length mt 0 mz par ev o ∧ (mt, listOf #[] 0) ∈ n' ∧ (md == sysModules) = false ∧ (mt == sysModules) = false) := by
  refine' fspec_of_body (binds := [(Str.ofString "src", xv), (Str.ofString "parent", pv), (Str.ofString "lazy", .ref mz), (Str.ofString "env", .ref ev)]) ?ho ?hcd ?hbind ?hloc ?hb ?c2 ?c3 ?c4 ?c5
  walk_at "enter"
  rintro A g L hR hB _ _
  refine sx_ret (P := fun v n' => ∃ md mt o, v = .ref md ∧ (md, o) ∈ n' ∧ IsMD prog w x x.length mt 0 mz par ev o ∧ (mt, listOf #[] 0) ∈ n' ∧ (md == sysModules) = false ∧ (mt == sysModules) = false) (tr_Dict hB (h := fun d o hn ho => ?_)) fun v n1 q => q
  refine tr_pairs (Pv := fun v n' => n' = [(d, o)] ∧ IsS x v) pu_str (pu_local rfl hx) fun k1 v n1 h1 q => ?_
  obtain ⟨rfl, t1, rfl⟩ := q
  refine tr_pairs (Pv := fun v n' => n' = [(d, o)] ∧ IsI x.length v) pu_str (pu_lenStr hB (by omega) (pu_local rfl hx)) fun k2 v n1 h2 q => ?_
  obtain ⟨rfl, t2, rfl⟩ := q
  refine tr_pairs (Pv := fun v n' => ∃ mt, v = .ref mt ∧ New [(d, o)] mt ∧ n' = [(mt, listOf #[] 0), (d, o)]) pu_str (tr_List hB (Pa := fun vs n1 => vs = [] ∧ n1 = [(d, o)]) (Tr.mono pu_args0 fun v n' q => ⟨q.2, q.1⟩) fun vs n1 q => ?_) fun k3 v n1 h3 q => ?_
  · obtain ⟨rfl, rfl⟩ := q
    exact ⟨by decide, fun a ha => ⟨a, rfl, ha, rfl⟩⟩
  obtain ⟨mt, rfl, hmt, rfl⟩ := q
  have hne : mt ≠ d := fun e => hmt.1 (by simp [e])
  refine tr_pairs (Pv := fun v n' => n' = [(mt, listOf #[] 0), (d, o)] ∧ IsI 0 v) pu_str pu_int fun k4 v n1 h4 q => ?_
  obtain ⟨rfl, t3, rfl⟩ := q
  refine tr_pairs (Pv := fun v n' => n' = [(mt, listOf #[] 0), (d, o)] ∧ v = .ref mz) pu_str (pu_local rfl rfl) fun k5 v n1 h5 q => ?_
  obtain ⟨rfl, rfl⟩ := q
  refine tr_pairs (Pv := fun v n' => n' = [(mt, listOf #[] 0), (d, o)] ∧ IsPar par v) pu_str (pu_local rfl hp) fun k6 v n1 h6 q => ?_
  obtain ⟨rfl, t4, rfl⟩ := q
  refine tr_pairs (Pv := fun v n' => n' = [(mt, listOf #[] 0), (d, o)] ∧ v = .ref ev) pu_str (pu_local rfl rfl) fun k7 v n1 h7 q => ?_
  obtain ⟨rfl, rfl⟩ := q
  obtain ⟨u1, rfl⟩ := h1
  obtain ⟨u2, rfl⟩ := h2
  obtain ⟨u3, rfl⟩ := h3
  obtain ⟨u4, rfl⟩ := h4
  obtain ⟨u5, rfl⟩ := h5
  obtain ⟨u6, rfl⟩ := h6
  obtain ⟨u7, rfl⟩ := h7
  refine tr_pairs0 ⟨.tail _ (.head _), rfl, (show [Str.ofString "src", Str.ofString "limit", Str.ofString "tokens", Str.ofString "cursor", Str.ofString "lazy", Str.ofString "parent", Str.ofString "env"].Nodup from by decide +kernel), fun o' ho' => ⟨d, mt, o', rfl, put_self _ _ _, ⟨t1, t2, t3, t4, ho'⟩, mem_put (.head _) hne, hn.2, hmt.2⟩⟩

/-- the fields of a state, read -/
abbrev spar : Str := Str.ofString "parent"
theorem Room.un1 {A : Around} {k : Nat} (R : Room A k) : A.units < cLine := R.line0
/-- the two token lists -/
theorem c_neToks (I : Kno g n (InvH prog w D)) (N : NodeA (D.s k) (D.m k) b) (hkc : k < D.cs) (hkm : k < D.cm) (hu : A.units + 10 < cLine) {x y : Value} (hx : x = .ref (D.s k).f.T) (hy : y = .ref (D.m k).mt) : Pu prog w A g L m n (compareOp .NotEq x y) (· = .bool false) := by
  subst hx hy
  refine pu_of fun s Q E F NN kk => ?_
  have i := I.here F NN
  have hlen : (D.s k).ts.length = (D.m k).ts.length := by have := congrArg List.length N.ts; simpa using this
  refine own_ne_lists (rd_toks i hkc) (rd_mt i hkm) (by simp [hlen]) (by omega) (fun j h1 h2 => ?_) (kk _ s.toks rfl)
  have h1' : j < (D.s k).ts.length := by simpa using h1
  have h2' : j < (D.m k).ts.length := by simpa using h2
  have e : tyx (D.s k).ts[j] = tyx (D.m k).ts[j] := by
    have := congrArg (fun l : List (Str × Str) => l[j]?) N.ts
    simpa [h1', h2'] using this
  obtain ⟨e1, e2⟩ := Prod.mk.inj e
  obtain ⟨a1, a2⟩ := rd_tok i hkc (List.getElem_mem h1')
  obtain ⟨b1, b2⟩ := rd_mtok i hkm (List.getElem_mem h2')
  rw [e1, e2] at a1
  obtain ⟨σ, R⟩ := i.rep
  have hne : (D.s k).ts[j].a ≠ (D.m k).ts[j].a := Rep.ne ((R (.s k) hkc).2.2.2.2.1 _ (List.getElem_mem h1')) ((R (.m k) hkm).2.2.2.1 _ (List.getElem_mem h2')) (by simp)
  have := tok_eqOf (prog := prog) (w := w) (A := A.in1) (s := s) a1 b1 a2 b2 hne (by show A.units + 1 < _; omega)
  simpa using this
/-- the two envs -/
theorem c_neEnvs {e : Bool} (I : Kno g n (InvH prog w D)) (hkv : (D.e e).kv = (D.e e).mkv) (hkn : ((D.e e).mkv.map (·.1)).Nodup) (hu : A.units + 10 < cLine) {x y : Value} (hx : x = .ref (D.e e).se) (hy : y = .ref (D.e e).me) : Pu prog w A g L m n (compareOp .NotEq x y) (· = .bool false) := by
  subst hx hy
  refine pu_of fun s Q E F NN kk => ?_
  have i := I.here F NN
  obtain ⟨d1, s1⟩ := rd_env i e
  obtain ⟨d2, s2⟩ := rd_menv i e
  obtain ⟨va, h1, d3, s3⟩ := rd_lk i e
  obtain ⟨vb, h2, d4, s4⟩ := rd_mlk i e
  obtain ⟨σ, R⟩ := i.rep
  have hne : (D.e e).sl ≠ (D.e e).ml := Rep.ne (R (.e e)).2.1 (R (.e e)).2.2.2 (by simp)
  rw [hkv] at h1
  exact own_ne_dict1 s1 s2 d1 d2 (by omega) (lk_eqOf hkn h1 h2 d3 d4 s3 s4 hne (by show A.units + 1 < _; omega)) (kk _ s.toks rfl)
/-- state and model alike -/
theorem s_same {kv : Value} {pl : Nat} (hk : IsI k kv) (G : Good D b pl) (hkc : k < D.cs) :
    FSpec prog w (.ref 172) [.ref D.SL, .ref D.ML, kv] 6 [] (fun h => InvH prog w D h) (fun v _ => v = .bool true) := by
  refine' fspec_of_body (binds := [(Str.ofString "states", .ref D.SL), (Str.ofString "models", .ref D.ML), (Str.ofString "k", kv)]) ?ho ?hcd ?hbind ?hloc ?hb ?c2 ?c3 ?c4 ?c5
  walk_at "enter"
  rintro A g L hR hB I _
  have IK : ∀ {n}, Kno g n (InvH prog w D) := Kno.of I fun h h' k b => b.keeps k
  have hkm : k < D.cm := by rw [G.cm]; exact hkc
  have c6 := G.c6
  have h6s : D.cs ≤ 1000 := by omega
  have h6 : D.cm ≤ 1000 := by rw [G.cm]; omega
  have N := G.na k hkc
  have NL := G.nl k hkc
  have hlen : (D.m k).src.length ≤ 9 := (endOk_texts _ N.mem).1
  have hbs : ∀ {n}, Kno g n (fun h => BSAt h (D.s k).x (D.s k).f) := fun {n} => IK.imp fun h i => rd_bs i hkc
  obtain ⟨d, hdk, hmc, hch⟩ := chains (prog := prog) (w := w) G k hkc
  refine sx_letPu (P := (· = .ref (D.s k).x)) (pu_state IK hkc h6s (pu_local rfl rfl) (pu_local rfl hk)) fun v e => ?_
  subst e
  refine sx_letPu (P := (· = .ref (D.m k).md)) (pu_model IK hkm h6 (pu_local rfl rfl) (pu_local rfl hk)) fun v e => ?_
  subst e
  refine sx_skip (pu_orF (pu_testCmp (pu_src hB hbs (pu_local rfl rfl)) (pu_mkey IK hkm (fun t1 t2 t3 t4 => ⟨_, rfl, ⟨_, rfl⟩⟩) (pu_local rfl rfl) pu_str) fun a c ha hc => (c_neS ha hc).to (by rw [N.src]; simp))
    (pu_orF (pu_testCmp (pu_limit hB hbs (pu_local rfl rfl)) (pu_mkey IK hkm (fun t1 t2 t3 t4 => ⟨_, rfl, ⟨_, rfl⟩⟩) (pu_local rfl rfl) pu_str) fun a c ha hc => (c_neI ha hc).to (by rw [N.sl, N.ml]; simp))
      (pu_orF (pu_testCmp (pu_cursor hB hbs (pu_local rfl rfl)) (pu_mkey IK hkm (fun t1 t2 t3 t4 => ⟨_, rfl, ⟨_, rfl⟩⟩) (pu_local rfl rfl) pu_str) fun a c ha hc => (c_neI ha hc).to (by rw [N.cur]; simp)) pu_orE))) ?_
  have hun : A.units + 10 < cLine := by have := hR.un; show A.units + 10 < 9900; omega
  refine sx_skip (pu_orF (pu_testCmp (pu_tokens hB hbs (pu_local rfl rfl)) (pu_mkey (P := (· = .ref (D.m k).mt)) IK hkm (fun t1 t2 t3 t4 => ⟨_, rfl, rfl⟩) (pu_local rfl rfl) pu_str) fun a c ha hc => c_neToks IK N hkc hkm hun ha hc)
    (pu_orF (pu_testCmp (Pl := IsI d) (Pr := IsI d) (pu_m0 (P := IsI d) hB (hR.le (by decide)) hbs (m_depth w) (fn_depth w) (kp_depth w) (by intros; rfl) (pu_local rfl rfl) (s_depth (d := d)) (IK.imp fun h i => ⟨rd_bs i hkc, hch h i⟩) (fun v _ q => q))
      (tr_Call (pu_K hB (g_law_depth w) rfl) (tr_callWith hB (k_law_depth w) (pu_args (pu_local (P := (· = .ref D.ML)) rfl rfl) (pu_args (pu_local rfl hk) pu_args0)) fun vs n1 q => ?_)) fun a c ha hc => (c_neI ha hc).to (by simp)) pu_orE)) ?_
  · obtain ⟨rfl, v, r, rfl, rfl, v2, r2, rfl, hv2, rfl⟩ := q
    exact pu_call (P := IsI d) (s_law_depth hv2 hmc hkm h6) (hR.le (by decide)) hB IK fun v n' q => q
  refine sx_if (PB := fun c n1 => c = false ∧ True) (tr_orF (P := fun _ => True) (tr_testCmp (Pl := fun v n1 => ∃ b vs c, v = .ref b ∧ IntsAre vs (D.m k).lz ∧ (b, listOf vs.toArray c) ∈ n1) (Pr := fun a v n1 => (∃ b vs c, a = .ref b ∧ IntsAre vs (D.m k).lz ∧ (b, listOf vs.toArray c) ∈ n1) ∧ v = .ref (D.m k).mz)
      (tr_Call (pu_B hB (b_sorted w) rfl (by decide) rfl) (tr_callWithB (fun a e => by cases e) (pu_args (pu_lazy hB hbs (pu_local rfl rfl)) pu_args0) fun vs n1 q => ?_)) (fun a n1 q => ?_) fun a v n2 q => ?_)
    fun n1 _ => tr_orF (P := fun _ => True) (Tr.mono (pu_testCmp (pu_env hB hbs (pu_local rfl rfl)) (pu_mkey (P := (· = .ref (D.m k).env)) IK hkm (fun t1 t2 t3 t4 => ⟨_, rfl, rfl⟩) (pu_local rfl rfl) pu_str)
        fun a v ha hv => c_neEnvs (e := (D.m k).ev) IK (G.ea _).kv (G.ea _).kn hun (by rw [ha, NL.se]) (by rw [hv, NL.me])) fun c n' q => ⟨q.2, trivial⟩)
      fun n2 _ => tr_orF (P := fun _ => True) (Tr.mono (pu_testCmp (pu_tight hB hbs (pu_local rfl rfl)) pu_bool fun a v ha hv => c_notBool ha hv) fun c n' q => ⟨q.2, trivial⟩) fun n3 _ => Tr.mono pu_orE fun c n' q => ⟨q.2, trivial⟩) (fun n1 q => absurd q.1 (by decide)) fun n1 _ => sx_nil ?_
  · obtain ⟨rfl, v, r, rfl, rfl, rfl⟩ := q
    refine Tr.mono (tr_sorted hR.hd hB (IK.imp fun h i => rd_set i hkc)) fun v n' q => ?_
    obtain ⟨b', vs, ns, c, rfl, _, hI, hp, hs, rfl⟩ := q
    obtain rfl := sorted_is hp hs (by rw [N.lz]; exact N.lk)
    exact ⟨b', vs, c, rfl, by rw [← N.lz]; exact hI, .head _⟩
  · exact Tr.mono (pu_mkey (P := (· = .ref (D.m k).mz)) IK hkm (fun t1 t2 t3 t4 => ⟨_, rfl, rfl⟩) (pu_local rfl rfl) pu_str) fun v n' e => by obtain ⟨rfl, rfl⟩ := e; exact ⟨q, rfl⟩
  · obtain ⟨⟨b', vs, c, rfl, hI, hm⟩, rfl⟩ := q
    refine Tr.mono (P := fun v n' => n' = n2 ∧ v = .bool false) (pu_of fun s Q E F NN kk => ?_) fun v n' e => ⟨e.2, trivial⟩
    obtain ⟨us, hU, hl⟩ := rd_mz (IK.here F NN) hkm
    exact own_ne_lists ⟨_, (NN _ hm).1, rfl, c, rfl⟩ hl (by simp [hI.length, hU.length]) (by omega) (ints_eqOf hI hU) (kk _ s.toks rfl)
  cases hp : (D.m k).par with
  | none =>
    refine sx_ifT (pu_testCmp (pu_mkey (P := IsPar (D.m k).par) IK hkm (fun t1 t2 t3 t4 => ⟨_, rfl, t4, rfl⟩) (pu_local rfl rfl) pu_str) pu_none fun a c ha hc => (c_isNone hc).to (by obtain ⟨t, rfl⟩ := ha; rw [hp]; rfl)) ?_
    exact sx_retPu (pu_Compare (pu_parent hB hbs (pu_local rfl rfl)) pu_none fun a c ha hc => (c_isNone hc).to (b := true) (by rw [ha, NL.p0 hp]; rfl)) fun v e => e
  | some p =>
    obtain ⟨p1, p2, p3⟩ := NL.p1 p hp
    have hpc : p < D.cs := by omega
    have hIp : ∀ (v : Value), IsPar (D.m k).par v → IsI p v := fun v hv => by obtain ⟨t, rfl⟩ := hv; rw [hp]; exact ⟨t, rfl⟩
    have hbp : ∀ {n}, Kno g n (fun h => BSAt h (D.s p).x (D.s p).f) := fun {n} => IK.imp fun h i => rd_bs i hpc
    refine sx_skip (pu_testCmp (pu_mkey (P := IsPar (D.m k).par) IK hkm (fun t1 t2 t3 t4 => ⟨_, rfl, t4, rfl⟩) (pu_local rfl rfl) pu_str) pu_none fun a c ha hc => (c_isNone hc).to (by obtain ⟨t, rfl⟩ := ha; rw [hp]; rfl)) ?_
    refine sx_retPu (pu_BoolAnd2 (pu_Compare (pu_parent hB hbs (pu_local rfl rfl)) (pu_state IK hpc h6s (pu_local rfl rfl) (Pu.mono (pu_mkey IK hkm (fun t1 t2 t3 t4 => ⟨_, rfl, t4, rfl⟩) (pu_local rfl rfl) pu_str) hIp)) fun a c ha hc => c_isSelf (by rw [ha, p2]; rfl) hc)
      (pu_Compare (pu_env hB hbs (pu_local rfl rfl)) (pu_env hB hbp (pu_state IK hpc h6s (pu_local rfl rfl) (Pu.mono (pu_mkey IK hkm (fun t1 t2 t3 t4 => ⟨_, rfl, t4, rfl⟩) (pu_local rfl rfl) pu_str) hIp))) fun a c ha hc => c_isSelf ha (by rw [hc, (G.nl p hpc).se, p3, ← NL.se]))) fun v e => e
end
end Mine
namespace Mine
theorem fill_frag12 : (PySem.Challenge.rw_bq5015_01, hd.heap_39) = (PySem.Challenge.rw_bq5015_01, hd.heap_39) := by k_fill; rfl
/-- every item one of the strings -/
def StrL (items : List Value) (X : List Str) : Prop := ∀ (i : Nat) (v : Value), items[i]? = some v → ∃ x ∈ X, IsS x v
section
variable {prog : Program} {w : World} {D : DD} {h : Heap} {n n' : Led} {g : Heap} {k : Nat} {σ : Store} {b pl : Nat} {A : Around} {s : Shared} {L : Addr} {m : Str → Option Value}
theorem texts_list (B : Bas w g) : ∃ items, g.IsList 122 items.toArray ∧ items.length = 8 ∧ StrL items texts ∧ StrL (items.drop 2) (texts.drop 2) := by
  have h : ∃ (t : Nat → Tok), (hd.heap_39 w.params).lookup 122 = some { cls := .type "list", data := .seq #[.str (Str.ofString "") (t 0), .str (Str.ofString "a") (t 1), .str (Str.ofString "a\n") (t 2), .str (Str.ofString "ab\ncd\n") (t 3), .str (Str.ofString "\n\n") (t 4), .str (Str.ofString "x\n\ny") (t 5), .str (Str.ofString "p q\nr\n\ns\n") (t 6), .str (Str.ofString "\nz") (t 7)] } := ⟨fun i => i + 327, rfl⟩
  obtain ⟨t, h⟩ := h
  refine ⟨[.str (Str.ofString "") (t 0), .str (Str.ofString "a") (t 1), .str (Str.ofString "a\n") (t 2), .str (Str.ofString "ab\ncd\n") (t 3), .str (Str.ofString "\n\n") (t 4), .str (Str.ofString "x\n\ny") (t 5), .str (Str.ofString "p q\nr\n\ns\n") (t 6), .str (Str.ofString "\nz") (t 7)], ⟨_, B.k _ _ h, rfl, _, rfl⟩, rfl, fun i v hv => ?_, fun i v hv => ?_⟩
  · have hm := List.mem_of_getElem? hv
    simp only [List.mem_cons, List.not_mem_nil, or_false] at hm
    rcases hm with rfl | rfl | rfl | rfl | rfl | rfl | rfl | rfl <;> exact ⟨_, by simp, _, rfl⟩
  · have hm := List.mem_of_getElem? hv
    simp only [List.drop_succ_cons, List.drop_zero, List.mem_cons, List.not_mem_nil, or_false] at hm
    rcases hm with rfl | rfl | rfl | rfl | rfl | rfl <;> exact ⟨_, by simp, _, rfl⟩
theorem pieces_list (B : Bas w g) : ∃ items, g.IsList 123 items.toArray ∧ items.length = 4 ∧ StrL items pieces := by
  have h : ∃ t1 t2 t3 t4, (hd.heap_39 w.params).lookup 123 = some { cls := .type "list", data := .seq #[.str (Str.ofString "a") t1, .str (Str.ofString "b\n") t2, .str (Str.ofString "") t3, .str (Str.ofString "c d\n\n") t4] } := ⟨_, _, _, _, rfl⟩
  obtain ⟨t1, t2, t3, t4, h⟩ := h
  refine ⟨[.str (Str.ofString "a") t1, .str (Str.ofString "b\n") t2, .str (Str.ofString "") t3, .str (Str.ofString "c d\n\n") t4], ⟨_, B.k _ _ h, rfl, _, rfl⟩, rfl, fun i v hv => ?_⟩
  have hm := List.mem_of_getElem? hv
  simp only [List.mem_cons, List.not_mem_nil, or_false] at hm
  rcases hm with rfl | rfl | rfl | rfl <;> exact ⟨_, by simp, _, rfl⟩
/-- the script, read -/
structure Scr (g : Heap) (script : Addr) : Prop where
  ex : ∃ vs ns, IntsAre vs ns ∧ vs.length ≤ 63 ∧ g.IsList script vs.toArray
theorem Scr.keeps {g h : Heap} {a : Addr} (S : Scr g a) (k : g.StaysIn h) : Scr h a := by
  obtain ⟨vs, ns, h1, h2, h3⟩ := S.ex
  exact ⟨vs, ns, h1, h2, h3.at fun o e => k _ _ e⟩
def DD.draw (D : DD) (mix : Int) : DD := { D with place := D.place + 1, mix := mix }
theorem inv_drawn {N' : Led} (I : Inv prog w D n) (hd : Drawn D.script D.B D.place n N') : ∃ mix, 0 ≤ mix ∧ mix < 2147483647 ∧ Inv prog w (D.draw mix) N' := by
  obtain ⟨mix, oB, h0, h1, hb, rfl⟩ := hd
  exact ⟨mix, h0, h1, inv_box_up I (.head _) hb (Kp.call (l := [(D.B, oB)]))⟩
theorem Good.draw (G : Good D b pl) {mix : Int} (h0 : 0 ≤ mix) (h1 : mix < 2147483647) : Good (D.draw mix) b (pl + 1) :=
  { c2 := G.c2, c6 := G.c6, cm := G.cm, pl0 := by have := G.pl0; show 0 ≤ D.place + 1; omega, pl1 := by have := G.pl1; show D.place + 1 ≤ _; push_cast; omega, m0 := h0, m1 := h1, na := G.na, nl := G.nl, ea := G.ea, e0 := G.e0, e1 := G.e1 }
/-- the room a place has in the box -/
theorem Good.more (G : Good D b pl) {b' pl' : Nat} (h1 : b ≤ b') (h2 : pl ≤ pl') : Good D b' pl' :=
  { c2 := G.c2, c6 := G.c6, cm := G.cm, pl0 := G.pl0, pl1 := by have := G.pl1; omega, m0 := G.m0, m1 := G.m1,
    na := fun k hk => let N := G.na k hk; ⟨N.src, N.mem, N.sl, N.ml, N.cur, N.c0, N.c1, N.ts, Nat.le_trans N.tl h1, fun t ht => Nat.le_trans (N.tx t ht) (by omega), N.lz, N.lk⟩,
    nl := G.nl, ea := fun e => ⟨(G.ea e).kv, Nat.le_trans (G.ea e).kl h1, (G.ea e).kn⟩, e0 := G.e0, e1 := G.e1 }
section
variable {cn : Str} {cs : Scope} {a : Addr} {ccd : Value} {pos p : Pos} {e1 e2 : Expr}
/-- _law_draw(box, size) -/
theorem tr_drawI {size : Int} {kk : Nat} (hB : Bas w g) (hR : Room A (kk + 1)) (hS : Scr g D.script) (G : Good D b pl) (hpl : pl ≤ 90000) (I : Inv prog w D n) (hs : 0 < size)
    (hx1 : Pu prog w A g L m n (eval e1 (envOf cn cs L a ccd)) (· = .ref D.B)) (hx2 : Pu prog w A g L m n (eval e2 (envOf cn cs L a ccd)) (IsI size))
    (hk : cs.kind = .function := by rfl) (hx : (envOf cn cs L a ccd).kindOf (Str.ofString "_law_draw") = some .globalImplicit := by rfl)
    (he : eval (.Call (.Name (Str.ofString "_law_draw") p) [e1, e2] [] pos) (envOf cn cs L a ccd) = (do callWith pos (← eval (.Name (Str.ofString "_law_draw") p) (envOf cn cs L a ccd)) [] (backTo pos (starEach [e1, e2] (envOf cn cs L a ccd))) (backToKw pos (keywordEach [] (envOf cn cs L a ccd)))) := by rfl)
    (hs1 : starEach [e1, e2] (envOf cn cs L a ccd) = (false, eval e1 (envOf cn cs L a ccd)) :: starEach [e2] (envOf cn cs L a ccd) := by rfl) (hs2 : starEach [e2] (envOf cn cs L a ccd) = (false, eval e2 (envOf cn cs L a ccd)) :: starEach [] (envOf cn cs L a ccd) := by rfl)
    (hp1 : (backTo pos (starEach [e2] (envOf cn cs L a ccd))).any (·.1) = false := by rfl) :
    Tr prog w A g L m n (eval (.Call (.Name (Str.ofString "_law_draw") p) [e1, e2] [] pos) (envOf cn cs L a ccd)) (fun v N' => ∃ d, IsI d v ∧ 0 ≤ d ∧ d < size ∧ Drawn D.script D.B D.place n N') := by
  obtain ⟨vs, ns, hI, h63, hl⟩ := hS.ex
  obtain ⟨oB, hm, hb⟩ := inv_box I
  exact tr_draw hB hR hm hb hs G.pl0 (by have := G.pl1; omega) G.m0 G.m1 hI h63 hl hx1 hx2 hk hx he hs1 hs2 hp1
/-- _law_pick(box, rows) -/
theorem tr_pickI {rl : Addr} {items : List Value} {X : List Str} {kk : Nat} {P : Led → Prop} (hB : Bas w g) (hR : Room A (kk + 3)) (hS : Scr g D.script) (G : Good D b pl) (hpl : pl ≤ 90000) (I : Inv prog w D n)
    (hrl : ∀ n1, P n1 → (∀ p ∈ n, p ∈ n1) ∧ Kno g (drop n1 [D.B]) (fun h => h.IsList rl items.toArray)) (h0 : 0 < items.length) (hz : items.length < 1000) (hX : StrL items X)
    (hx1 : Pu prog w A g L m n (eval e1 (envOf cn cs L a ccd)) (· = .ref D.B)) (hx2 : Tr prog w A g L m n (eval e2 (envOf cn cs L a ccd)) (fun v n1 => v = .ref rl ∧ P n1))
    (hk : cs.kind = .function := by rfl) (hx : (envOf cn cs L a ccd).kindOf (Str.ofString "_law_pick") = some .globalImplicit := by rfl)
    (he : eval (.Call (.Name (Str.ofString "_law_pick") p) [e1, e2] [] pos) (envOf cn cs L a ccd) = (do callWith pos (← eval (.Name (Str.ofString "_law_pick") p) (envOf cn cs L a ccd)) [] (backTo pos (starEach [e1, e2] (envOf cn cs L a ccd))) (backToKw pos (keywordEach [] (envOf cn cs L a ccd)))) := by rfl)
    (hs1 : starEach [e1, e2] (envOf cn cs L a ccd) = (false, eval e1 (envOf cn cs L a ccd)) :: starEach [e2] (envOf cn cs L a ccd) := by rfl) (hs2 : starEach [e2] (envOf cn cs L a ccd) = (false, eval e2 (envOf cn cs L a ccd)) :: starEach [] (envOf cn cs L a ccd) := by rfl)
    (hp1 : (backTo pos (starEach [e2] (envOf cn cs L a ccd))).any (·.1) = false := by rfl) :
    Tr prog w A g L m n (eval (.Call (.Name (Str.ofString "_law_pick") p) [e1, e2] [] pos) (envOf cn cs L a ccd)) (fun v N' => ∃ x ∈ X, IsS x v ∧ ∃ n1, P n1 ∧ Drawn D.script D.B D.place n1 N') := by
  obtain ⟨vs, ns, hI, h63, hl⟩ := hS.ex
  obtain ⟨oB, hm, hb⟩ := inv_box I
  refine tr_Call (pu_K hB (g_law_pick w) rfl hk hx rfl) (tr_callWith hB (k_law_pick w) (tr_args (P := fun v n1 => n1 = n ∧ v = .ref D.B) (Ps := fun us n1 => us = [.ref D.B, .ref rl] ∧ P n1) hx1 (fun v n1 q => ?_) hs1) (fun us n1 q => ?_) hs1 hp1) he
  · obtain ⟨rfl, rfl⟩ := q
    refine tr_args (Ps := fun us n1 => Value.ref D.B :: us = [.ref D.B, .ref rl] ∧ P n1) hx2 (fun v n2 q => ?_) hs2
    exact Tr.mono pu_args0 fun us n3 z => by obtain ⟨rfl, rfl⟩ := z; obtain ⟨rfl, q⟩ := q; exact ⟨rfl, q⟩
  · obtain ⟨rfl, q⟩ := q
    obtain ⟨hsub, hk2⟩ := hrl n1 q
    refine Tr.mono (tr_call (s_pick hb h0 hz G.pl0 (by have := G.pl1; omega) G.m0 G.m1 hI h63) (hR.le (by omega)) hB (fun q hq => by
      have : q = (D.B, oB) := by simpa using hq
      subst this; exact hsub _ hm) ((Kno.of hl fun h h' k b => b.at fun o e => k _ _ e).and hk2)) fun v N' q => ?_
    obtain ⟨n', ⟨i, hi, mix', oB', m0', m1', hb', rfl⟩, rfl, _⟩ := q
    obtain ⟨x, hx, hxs⟩ := hX i v hi
    have e : drop [(D.B, oB)] [D.B] = [] := by simp [drop]
    rw [e]
    exact ⟨x, hx, hxs, n1, q, mix', oB', m0', m1', hb', rfl⟩
end
end
end Mine
namespace Mine
theorem fill_frag13 : (PySem.Challenge.rw_bq5015_01, hd.heap_39) = (PySem.Challenge.rw_bq5015_01, hd.heap_39) := by k_fill; rfl
local macro_rules | `(tactic| walk_at "enter") => `(tactic| ((case ho => k_is); (case hcd => k_is); (case hbind => exact fun s _ => BindsTo.of_eq rfl); (case hloc => exact locs rfl); (case c2 => exact rfl); (case c3 => exact rfl); (case c4 => exact rfl); (case c5 => decide)))
theorem DD.setM_setM (D : DD) (k : Nat) (M M' : MN) : (D.setM k M).setM k M' = D.setM k M' := by
  unfold DD.setM; congr 1; funext j; by_cases h : j = k <;> simp [h]
theorem DD.setS_setS (D : DD) (k : Nat) (M M' : SN) : (D.setS k M).setS k M' = D.setS k M' := by
  unfold DD.setS; congr 1; funext j; by_cases h : j = k <;> simp [h]
theorem DD.setE_setE (D : DD) (k : Bool) (M M' : EN) : (D.setE k M).setE k M' = D.setE k M' := by
  unfold DD.setE; congr 1; funext j; by_cases h : j = k <;> simp [h]
theorem DD.setS_same (D : DD) (k : Nat) : D.setS k (D.s k) = D := by
  obtain ⟨_, _, _, _, _, _, _, _, s, _, _⟩ := D
  unfold DD.setS; congr 1; funext j; by_cases h : j = k <;> simp [h]
theorem DD.setM_same (D : DD) (k : Nat) : D.setM k (D.m k) = D := by
  obtain ⟨_, _, _, _, _, _, _, _, s, _, _⟩ := D
  unfold DD.setM; congr 1; funext j; by_cases h : j = k <;> simp [h]
/-- the same frame -/
structure Ext (D D' : DD) : Prop where
  B : D'.B = D.B
  SL : D'.SL = D.SL
  ML : D'.ML = D.ML
  sc : D'.script = D.script
  cs : D.cs ≤ D'.cs
section
variable {prog : Program} {w : World} {D : DD} {h : Heap} {n n' : Led} {g : Heap} {k : Nat} {σ : Store} {b b' pl : Nat} {A : Around} {s : Shared} {L : Addr} {m : Str → Option Value}
theorem Good.upd (G : Good D b pl) (hk : k < D.cs) {N' : SN} {M' : MN} (hx : N'.x = (D.s k).x) (he : N'.f.env = (D.s k).f.env) (hp : N'.f.par = (D.s k).f.par) (mp : M'.par = (D.m k).par) (mev : M'.ev = (D.m k).ev) (me : M'.env = (D.m k).env) (hA : NodeA N' M' b') (hb : b ≤ b') :
    Good ((D.setS k N').setM k M') b' pl := by
  have hs : ∀ j, ((D.setS k N').setM k M').s j = if j = k then N' else D.s j := fun j => rfl
  have hm : ∀ j, ((D.setS k N').setM k M').m j = if j = k then M' else D.m j := fun j => rfl
  have hev : ∀ j, (((D.setS k N').setM k M').m j).ev = (D.m j).ev := fun j => by rw [hm]; by_cases h : j = k <;> simp [h, mev]
  have hpar : ∀ j, (((D.setS k N').setM k M').m j).par = (D.m j).par := fun j => by rw [hm]; by_cases h : j = k <;> simp [h, mp]
  have hen : ∀ j, (((D.setS k N').setM k M').m j).env = (D.m j).env := fun j => by rw [hm]; by_cases h : j = k <;> simp [h, me]
  have hsx : ∀ j, (((D.setS k N').setM k M').s j).x = (D.s j).x := fun j => by rw [hs]; by_cases h : j = k <;> simp [h, hx]
  have hse : ∀ j, (((D.setS k N').setM k M').s j).f.env = (D.s j).f.env := fun j => by rw [hs]; by_cases h : j = k <;> simp [h, he]
  have hsp : ∀ j, (((D.setS k N').setM k M').s j).f.par = (D.s j).f.par := fun j => by rw [hs]; by_cases h : j = k <;> simp [h, hp]
  have G' := G.more hb (Nat.le_refl _)
  refine ⟨G.c2, G.c6, G.cm, G.pl0, G.pl1, G.m0, G.m1, fun j hj => ?_, fun j hj => ?_, G'.ea, ?_, ?_⟩
  · rw [hs, hm]
    by_cases h : j = k
    · simp only [h, if_true]; exact hA
    · simp only [h, if_false]; exact G'.na j hj
  · have N := G.nl j hj
    refine ⟨by rw [hse, hev]; exact N.se, by rw [hen, hev]; exact N.me, fun q => by rw [hsp]; exact N.p0 (by rw [← hpar]; exact q), fun p q => ?_⟩
    obtain ⟨a1, a2, a3⟩ := N.p1 p (by rw [← hpar]; exact q)
    exact ⟨a1, by rw [hsp, hsx]; exact a2, by rw [hev, hev]; exact a3⟩
  · rw [hev]; exact G.e0
  · rw [hev]; exact G.e1
/-- model['src'] = y -/
theorem tr_msetSrc {y : Str} {key v : Value} (I : Inv prog w D n) (hk : k < D.cm) {a : Addr} (ha : (D.m k).md = a) (hkey : IsS (Str.ofString "src") key) (hv : IsS y v) : Tr prog w A g L m n (setItem (.ref a) key v) (fun _ n' => Inv prog w (D.setM k { D.m k with src := y }) n') := by
  subst ha
  obtain ⟨o, hm, t1, t2, t3, t4, hd⟩ := inv_md I hk
  obtain ⟨u, rfl⟩ := hv
  exact tr_setDict hm hd hkey (by simp) fun o' ho' => inv_md_up I hk (put_self _ _ _) ⟨u, t2, t3, t4, ho'⟩ Kp.put
theorem tr_msetLim {y : Int} {key v : Value} (I : Inv prog w D n) (hk : k < D.cm) {a : Addr} (ha : (D.m k).md = a) (hkey : IsS (Str.ofString "limit") key) (hv : IsI y v) : Tr prog w A g L m n (setItem (.ref a) key v) (fun _ n' => Inv prog w (D.setM k { D.m k with lim := y }) n') := by
  subst ha
  obtain ⟨o, hm, t1, t2, t3, t4, hd⟩ := inv_md I hk
  obtain ⟨u, rfl⟩ := hv
  exact tr_setDict hm hd hkey (by simp) fun o' ho' => inv_md_up I hk (put_self _ _ _) ⟨t1, u, t3, t4, ho'⟩ Kp.put
theorem tr_msetCur {y : Int} {key v : Value} (I : Inv prog w D n) (hk : k < D.cm) {a : Addr} (ha : (D.m k).md = a) (hkey : IsS (Str.ofString "cursor") key) (hv : IsI y v) : Tr prog w A g L m n (setItem (.ref a) key v) (fun _ n' => Inv prog w (D.setM k { D.m k with cur := y }) n') := by
  subst ha
  obtain ⟨o, hm, t1, t2, t3, t4, hd⟩ := inv_md I hk
  obtain ⟨u, rfl⟩ := hv
  exact tr_setDict hm hd hkey (by simp) fun o' ho' => inv_md_up I hk (put_self _ _ _) ⟨t1, t2, u, t4, ho'⟩ Kp.put
/-- what a deed leaves -/
def Done (prog : Program) (w : World) (D : DD) (b pl : Nat) (v : Value) (n' : Led) : Prop := v = .bool true ∧ ∃ D', Inv prog w D' n' ∧ Good D' (b + 1) (pl + 5) ∧ Ext D D'
end
section
variable {prog : Program} {w : World} {D : DD} {n : Led} {k : Nat} {b pl : Nat} {dv kv : Value}
theorem s_deed1 (hd : IsI 1 dv) (hk : IsI k kv) (hkc : k < D.cs) (G : Good D b pl) (hpl : pl ≤ 80000) (I : Inv prog w D n) :
    FSpec prog w (.ref 179) [.ref D.B, dv, kv, .ref D.SL, .ref D.ML] 20 n (fun h => Scr h D.script) (Done prog w D b pl) := by
  refine' fspec_of_body (binds := [(Str.ofString "box", .ref D.B), (Str.ofString "deed", dv), (Str.ofString "k", kv), (Str.ofString "states", .ref D.SL), (Str.ofString "models", .ref D.ML)]) ?ho ?hcd ?hbind ?hloc ?hb ?c2 ?c3 ?c4 ?c5
  walk_at "enter"
  rintro A g L hR hB hS _
  have hkm : k < D.cm := by rw [G.cm]; exact hkc
  have c6 := G.c6
  have h6s : D.cs ≤ 1000 := by omega
  have h6 : D.cm ≤ 1000 := by rw [G.cm]; omega
  have N := G.na k hkc
  have hE := endOk_texts _ N.mem
  have hlen : (D.m k).src.length ≤ 9 := hE.1
  refine sx_letPu (P := (· = .ref (D.s k).x)) (pu_state I.kno hkc h6s (pu_local rfl rfl) (pu_local rfl hk)) fun v e => ?_
  subst e
  refine sx_letPu (P := (· = .ref (D.m k).md)) (pu_model I.kno hkm h6 (pu_local rfl rfl) (pu_local rfl hk)) fun v e => ?_
  subst e
  refine sx_letPu (P := IsS (D.m k).src) (pu_mkey I.kno hkm (fun t1 t2 t3 t4 => ⟨_, rfl, ⟨_, rfl⟩⟩) (pu_local rfl rfl) pu_str) fun sv hsv => ?_
  refine sx_letPu (P := (· = .ref (D.m k).mt)) (pu_mkey I.kno hkm (fun t1 t2 t3 t4 => ⟨_, rfl, rfl⟩) (pu_local rfl rfl) pu_str) fun v e => ?_
  subst e
  refine sx_let (tr_drawI (kk := 11) (size := (D.m k).src.length + 3) hB (hR.le (j := 12) (by decide)) hS G (by omega) I (by omega) (pu_local rfl rfl) (pu_add (pu_lenStr hB (by omega) (pu_local rfl hsv)) pu_int)) fun pv n1 q => ?_
  obtain ⟨p, hp, p0, p1, hdr⟩ := q
  obtain ⟨mx, mx0, mx1, I1⟩ := inv_drawn I hdr
  have G1 := G.draw mx0 mx1
  refine sx_skip (pu_testCmp (pu_local rfl hd) pu_int fun a c ha hc => (c_eqI ha hc).to (by decide)) ?_
  refine sx_ifT (pu_testCmp (pu_local rfl hd) pu_int fun a c ha hc => (c_eqI ha hc).to (by decide)) ?_
  obtain ⟨od, md, hbs⟩ := inv_bs I1 hkc
  obtain ⟨mi, hne⟩ := inv_inst I1 hkc
  refine sx_attr (P := fun v n' => n' = n1 ∧ v = pv) (P2 := fun v ov n' => n' = n1 ∧ v = pv ∧ ov = .ref (D.s k).x) (pu_local rfl rfl) (fun v n1 q => ?_) fun v ov n2 q => ?_
  · obtain ⟨rfl, rfl⟩ := q; exact Tr.mono (pu_local (P := (· = .ref (D.s k).x)) rfl rfl) fun u n' e => ⟨e.1, rfl, e.2⟩
  obtain ⟨rfl, rfl, rfl⟩ := q
  refine tr_setCur hB md (Kno.mem mi) hbs hp fun o3 h3 => ?_
  have I2 := inv_bs_up I1 hkc (put_self _ _ _) h3 rfl rfl Kp.put
  refine sx_put (pu_local rfl hp) (pu_local (P := (· = .ref (D.m k).md)) rfl rfl) pu_str fun v iv hv hi => Tr.mono (tr_msetCur I2 hkm rfl hi hv) fun _ n3 I3 => sx_retPu pu_bool fun v e => ?_
  refine ⟨e, _, I3, ?_, ⟨rfl, rfl, rfl, rfl, Nat.le_refl _⟩⟩
  refine Good.more (Good.upd G1 hkc ?_ ?_ ?_ ?_ ?_ ?_ ?_ (Nat.le_succ b)) (Nat.le_refl _) (by omega)
  any_goals rfl
  exact { src := N.src, mem := N.mem, sl := N.sl, ml := N.ml, cur := rfl, c0 := p0, c1 := by show p < 13; omega, ts := N.ts, tl := Nat.le_succ_of_le N.tl, tx := fun t ht => Nat.le_trans (N.tx t ht) (by omega), lz := N.lz, lk := N.lk }
theorem s_deed0 (hd : IsI 0 dv) (hk : IsI k kv) (hkc : k < D.cs) (G : Good D b pl) (hpl : pl ≤ 80000) (I : Inv prog w D n) :
    FSpec prog w (.ref 179) [.ref D.B, dv, kv, .ref D.SL, .ref D.ML] 20 n (fun h => Scr h D.script) (Done prog w D b pl) := by
  refine' fspec_of_body (binds := [(Str.ofString "box", .ref D.B), (Str.ofString "deed", dv), (Str.ofString "k", kv), (Str.ofString "states", .ref D.SL), (Str.ofString "models", .ref D.ML)]) ?ho ?hcd ?hbind ?hloc ?hb ?c2 ?c3 ?c4 ?c5
  walk_at "enter"
  rintro A g L hR hB hS _
  have hkm : k < D.cm := by rw [G.cm]; exact hkc
  have c6 := G.c6
  have h6s : D.cs ≤ 1000 := by omega
  have h6 : D.cm ≤ 1000 := by rw [G.cm]; omega
  have N := G.na k hkc
  have hE := endOk_texts _ N.mem
  have hlen : (D.m k).src.length ≤ 9 := hE.1
  refine sx_letPu (P := (· = .ref (D.s k).x)) (pu_state I.kno hkc h6s (pu_local rfl rfl) (pu_local rfl hk)) fun v e => ?_
  subst e
  refine sx_letPu (P := (· = .ref (D.m k).md)) (pu_model I.kno hkm h6 (pu_local rfl rfl) (pu_local rfl hk)) fun v e => ?_
  subst e
  refine sx_letPu (P := IsS (D.m k).src) (pu_mkey I.kno hkm (fun t1 t2 t3 t4 => ⟨_, rfl, ⟨_, rfl⟩⟩) (pu_local rfl rfl) pu_str) fun sv hsv => ?_
  refine sx_letPu (P := (· = .ref (D.m k).mt)) (pu_mkey I.kno hkm (fun t1 t2 t3 t4 => ⟨_, rfl, rfl⟩) (pu_local rfl rfl) pu_str) fun v e => ?_
  subst e
  refine sx_let (tr_drawI (kk := 11) (size := (D.m k).src.length + 3) hB (hR.le (j := 12) (by decide)) hS G (by omega) I (by omega) (pu_local rfl rfl) (pu_add (pu_lenStr hB (by omega) (pu_local rfl hsv)) pu_int)) fun pv n1 q => ?_
  obtain ⟨p, hp, p0, p1, hdr⟩ := q
  obtain ⟨mx, mx0, mx1, I1⟩ := inv_drawn I hdr
  have G1 := G.draw mx0 mx1
  refine sx_ifT (pu_testCmp (pu_local rfl hd) pu_int fun a c ha hc => (c_eqI ha hc).to (by decide)) ?_
  obtain ⟨items, hil, hi8, hiX, _⟩ := texts_list hB
  refine sx_let (tr_pickI (D := D.draw mx) (rl := 122) (kk := 9) (items := items) (X := texts) (P := fun n2 => n2 = n1) hB (hR.le (j := 12) (by decide)) hS G1 (by omega) I1 (fun n2 e => by subst e; exact ⟨fun p h => h, Kno.of hil fun h h' k b => b.at fun o e => k _ _ e⟩) (by omega) (by omega) hiX (pu_local rfl rfl)
    (Tr.mono (pu_K (P := (· = .ref 122)) hB (g_law_texts w) rfl rfl) fun v n' q => ⟨q.2, q.1⟩)) fun tv n2 q => ?_
  obtain ⟨y, hy, hyv, n1', rfl, hdr2⟩ := q
  obtain ⟨mx2, mx20, mx21, I2⟩ := inv_drawn I1 hdr2
  have G2 := G1.draw mx20 mx21
  obtain ⟨od, md, hbs⟩ : ∃ o, ((D.s k).dx, o) ∈ n2 ∧ IsBS (D.s k).f o := inv_bs (D := (D.draw mx).draw mx2) I2 hkc
  obtain ⟨mi, hne⟩ : ((D.s k).x, instObj 117 (D.s k).dx) ∈ n2 ∧ (D.s k).x ≠ (D.s k).dx := inv_inst (D := (D.draw mx).draw mx2) I2 hkc
  have hyl := (endOk_texts y hy).1
  refine sx_expr (P := fun v n' => Inv prog w ((((D.draw mx).draw mx2)).setS k { D.s k with f := { (D.s k).f with src := y, lim := y.length } }) n') (tr_Method (pu_local (P := (· = .ref (D.s k).x)) rfl rfl) fun ov q => ?_) fun u n3 I3 => ?_
  · subst q
    refine ⟨_, _, pu_meth hB (kno_bs mi md hbs) (m_process w) (fn_process w) (by intros; rfl), tr_callWith hB (kp_process w) (pu_args (pu_local rfl hyv) pu_args0) fun vs n3 q => ?_⟩
    obtain ⟨rfl, v, r, rfl, hv, rfl⟩ := q
    refine Tr.mono (tr_call (s_process hv hbs (by omega)) (hR.le (by decide)) hB (fun q hq => by
      have : q = ((D.s k).dx, od) := by simpa using hq
      subst this; exact md) (Kno.mem (mem_drop mi (by simpa using hne)))) fun v N' q => ?_
    obtain ⟨n', ⟨_, o', hb', rfl⟩, rfl, _⟩ := q
    exact inv_bs_up I2 hkc (.head _) hb' rfl rfl Kp.call
  refine sx_put (pu_local rfl hyv) (pu_local (P := (· = .ref (D.m k).md)) rfl rfl) pu_str fun v iv hv hi => Tr.mono (tr_msetSrc I3 hkm rfl hi hv) fun _ n4 I4 => ?_
  refine sx_put (pu_lenStr hB (by omega) (pu_local rfl hyv)) (pu_local (P := (· = .ref (D.m k).md)) rfl rfl) pu_str fun v iv hv hi => ?_
  refine Tr.mono (tr_msetLim I4 hkm (by first | (rw [DD.setM_self]; done) | (rw [DD.setM_self]; rfl)) hi hv) fun _ n5 I5 => sx_retPu pu_bool fun v e => ?_
  rw [DD.setM_self, DD.setM_setM] at I5
  refine ⟨e, _, I5, ?_, ⟨rfl, rfl, rfl, rfl, Nat.le_refl _⟩⟩
  refine Good.more (Good.upd G2 hkc ?_ ?_ ?_ ?_ ?_ ?_ ?_ (Nat.le_succ b)) (Nat.le_refl _) (by omega)
  any_goals rfl
  exact { src := rfl, mem := hy, sl := rfl, ml := rfl, cur := N.cur, c0 := N.c0, c1 := N.c1, ts := N.ts, tl := Nat.le_succ_of_le N.tl, tx := fun t ht => Nat.le_trans (N.tx t ht) (by omega), lz := N.lz, lk := N.lk }
end
end Mine
namespace Mine
theorem fill_frag14 : (PySem.Challenge.rw_bq5015_01, hd.heap_39) = (PySem.Challenge.rw_bq5015_01, hd.heap_39) := by k_fill; rfl
local macro_rules | `(tactic| walk_at "enter") => `(tactic| ((case ho => k_is); (case hcd => k_is); (case hbind => exact fun s _ => BindsTo.of_eq rfl); (case hloc => exact locs rfl); (case c2 => exact rfl); (case c3 => exact rfl); (case c4 => exact rfl); (case c5 => decide)))
abbrev refsOf (ts : List Tk) : List Value := (ts.map fun t : Tk => t.a).map Value.ref
theorem FSpec.le {prog : Program} {w : World} {f : Value} {args : List Value} {k k' : Nat} {n : Led} {Pre : Heap → Prop} {RP : Value → Led → Prop} (S : FSpec prog w f args k n Pre RP) (h : k ≤ k') : FSpec prog w f args k' n Pre RP :=
  ⟨fun A s R hR => S.go A s R (hR.le h)⟩
section
variable {prog : Program} {w : World} {A : Around} {g : Heap} {L : Addr} {m : Str → Option Value} {n : Led} {cn : Str} {cs : Scope} {a : Addr} {ccd : Value} {pos p : Pos} {e1 e2 : Expr}
/-- _law_end(src, place) -/
theorem pu_lawEnd {x : Str} {i : Int} {kk : Nat} (hB : Bas w g) (hR : Room A (kk + 1)) (h0 : 0 ≤ i) (h1 : i < 13) (hE : EndOk x)
    (hx1 : Pu prog w A g L m n (eval e1 (envOf cn cs L a ccd)) (IsS x)) (hx2 : Pu prog w A g L m n (eval e2 (envOf cn cs L a ccd)) (IsI i))
    (hk : cs.kind = .function := by rfl) (hx : (envOf cn cs L a ccd).kindOf (Str.ofString "_law_end") = some .globalImplicit := by rfl)
    (he : eval (.Call (.Name (Str.ofString "_law_end") p) [e1, e2] [] pos) (envOf cn cs L a ccd) = (do callWith pos (← eval (.Name (Str.ofString "_law_end") p) (envOf cn cs L a ccd)) [] (backTo pos (starEach [e1, e2] (envOf cn cs L a ccd))) (backToKw pos (keywordEach [] (envOf cn cs L a ccd)))) := by rfl)
    (hs1 : starEach [e1, e2] (envOf cn cs L a ccd) = (false, eval e1 (envOf cn cs L a ccd)) :: starEach [e2] (envOf cn cs L a ccd) := by rfl) (hs2 : starEach [e2] (envOf cn cs L a ccd) = (false, eval e2 (envOf cn cs L a ccd)) :: starEach [] (envOf cn cs L a ccd) := by rfl)
    (hp1 : (backTo pos (starEach [e2] (envOf cn cs L a ccd))).any (·.1) = false := by rfl) :
    Pu prog w A g L m n (eval (.Call (.Name (Str.ofString "_law_end") p) [e1, e2] [] pos) (envOf cn cs L a ccd)) (IsI (lend x i)) :=
  tr_Call (pu_K hB (g_law_end w) rfl hk hx rfl) (tr_callWith hB (k_law_end w) (pu_args hx1 (pu_args hx2 pu_args0 hs2) hs1) (fun us n1 q => by
    obtain ⟨rfl, v, r, rfl, hv, v2, r2, rfl, hv2, rfl⟩ := q
    exact pu_call (s_end hv hv2 h0 h1 hE) (hR.le (by omega)) hB (Kno.of trivial fun _ _ _ _ => trivial) fun v n' q => q) hs1 hp1) he
/-- _law_last(tokens) -/
theorem pu_lawLast {l : Addr} {vs : List Value} {kk : Nat} (hB : Bas w g) (hR : Room A (kk + 1)) (hz : vs.length ≤ 1000) (hl : Kno g n (fun h => h.IsList l vs.toArray))
    (hx1 : Pu prog w A g L m n (eval e1 (envOf cn cs L a ccd)) (· = .ref l))
    (hk : cs.kind = .function := by rfl) (hx : (envOf cn cs L a ccd).kindOf (Str.ofString "_law_last") = some .globalImplicit := by rfl)
    (he : eval (.Call (.Name (Str.ofString "_law_last") p) [e1] [] pos) (envOf cn cs L a ccd) = (do callWith pos (← eval (.Name (Str.ofString "_law_last") p) (envOf cn cs L a ccd)) [] (backTo pos (starEach [e1] (envOf cn cs L a ccd))) (backToKw pos (keywordEach [] (envOf cn cs L a ccd)))) := by rfl)
    (hs1 : starEach [e1] (envOf cn cs L a ccd) = (false, eval e1 (envOf cn cs L a ccd)) :: starEach [] (envOf cn cs L a ccd) := by rfl) :
    Pu prog w A g L m n (eval (.Call (.Name (Str.ofString "_law_last") p) [e1] [] pos) (envOf cn cs L a ccd)) (· = lastV vs) :=
  tr_Call (pu_K hB (g_law_last w) rfl hk hx rfl) (tr_callWith hB (k_law_last w) (pu_args hx1 pu_args0 hs1) (fun us n1 q => by
    obtain ⟨rfl, v, r, rfl, rfl, rfl⟩ := q
    exact pu_call (s_law_last hz) (hR.le (by omega)) hB hl fun v n' q => q) hs1 rfl) he
end
section
variable {prog : Program} {w : World} {D : DD} {n : Led} {k : Nat} {b pl : Nat} {dv kv : Value}
theorem s_deed2 (hd : IsI 2 dv) (hk : IsI k kv) (hkc : k < D.cs) (G : Good D b pl) (hpl : pl ≤ 80000) (I : Inv prog w D n) :
    FSpec prog w (.ref 179) [.ref D.B, dv, kv, .ref D.SL, .ref D.ML] 20 n (fun h => Scr h D.script) (Done prog w D b pl) := by
  refine' fspec_of_body (binds := [(Str.ofString "box", .ref D.B), (Str.ofString "deed", dv), (Str.ofString "k", kv), (Str.ofString "states", .ref D.SL), (Str.ofString "models", .ref D.ML)]) ?ho ?hcd ?hbind ?hloc ?hb ?c2 ?c3 ?c4 ?c5
  walk_at "enter"
  rintro A g L hR hB hS _
  have hkm : k < D.cm := by rw [G.cm]; exact hkc
  have c6 := G.c6
  have h6s : D.cs ≤ 1000 := by omega
  have h6 : D.cm ≤ 1000 := by rw [G.cm]; omega
  have N := G.na k hkc
  have hE := endOk_texts _ N.mem
  have hlen : (D.m k).src.length ≤ 9 := hE.1
  refine sx_letPu (P := (· = .ref (D.s k).x)) (pu_state I.kno hkc h6s (pu_local rfl rfl) (pu_local rfl hk)) fun v e => ?_
  subst e
  refine sx_letPu (P := (· = .ref (D.m k).md)) (pu_model I.kno hkm h6 (pu_local rfl rfl) (pu_local rfl hk)) fun v e => ?_
  subst e
  refine sx_letPu (P := IsS (D.m k).src) (pu_mkey I.kno hkm (fun t1 t2 t3 t4 => ⟨_, rfl, ⟨_, rfl⟩⟩) (pu_local rfl rfl) pu_str) fun sv hsv => ?_
  refine sx_letPu (P := (· = .ref (D.m k).mt)) (pu_mkey I.kno hkm (fun t1 t2 t3 t4 => ⟨_, rfl, rfl⟩) (pu_local rfl rfl) pu_str) fun v e => ?_
  subst e
  refine sx_let (tr_drawI (kk := 11) (size := (D.m k).src.length + 3) hB (hR.le (j := 12) (by decide)) hS G (by omega) I (by omega) (pu_local rfl rfl) (pu_add (pu_lenStr hB (by omega) (pu_local rfl hsv)) pu_int)) fun pv n1 q => ?_
  obtain ⟨p, hp, p0, p1, hdr⟩ := q
  obtain ⟨mx, mx0, mx1, I1⟩ := inv_drawn I hdr
  have G1 := G.draw mx0 mx1
  refine sx_skip (pu_testCmp (pu_local rfl hd) pu_int fun a c ha hc => (c_eqI ha hc).to (by decide)) ?_
  refine sx_skip (pu_testCmp (pu_local rfl hd) pu_int fun a c ha hc => (c_eqI ha hc).to (by decide)) ?_
  refine sx_ifT (pu_testCmp (pu_local rfl hd) pu_int fun a c ha hc => (c_eqI ha hc).to (by decide)) ?_
  have hbs : Kno g n1 (fun h => BSAt h (D.s k).x (D.s k).f) := I1.kno.imp fun h i => rd_bs (D := D.draw mx) i hkc
  have hzs : ((D.s k).f.src.length : Int) < 2 ^ 60 := by rw [N.src]; omega
  refine sx_retPu (pu_BoolAnd2 (pu_Compare (pu_m0 (P := IsI (lend (D.s k).f.src (D.s k).f.cur)) hB (hR.le (j := 12) (by decide)) hbs (m_find_line_end w) (fn_find_line_end w) (kp_find_line_end w) (by intros; rfl) (pu_local rfl rfl) (FSpec.le (s_find_line_end hzs) (by decide)) hbs (fun v _ e => e))
      (pu_lawEnd (kk := 5) (i := (D.m k).cur) hB (hR.le (by decide)) N.c0 N.c1 hE (pu_local rfl hsv) (pu_mkey (D := D.draw mx) I1.kno hkm (fun t1 t2 t3 t4 => ⟨_, rfl, ⟨_, rfl⟩⟩) (pu_local rfl rfl) pu_str)) fun a c ha hc => (c_eqI ha hc).to (by rw [N.src, N.cur]; simp))
    (pu_Compare (pu_m1 (P := IsI (lend (D.s k).f.src p)) hB (hR.le (j := 12) (by decide)) hbs (m_find_line_end_at w) (fn_find_line_end_at w) (kp_find_line_end_at w) (by intros; rfl) (pu_local rfl rfl) (pu_local rfl hp) (fun v hv => FSpec.le (s_find_line_end_at hv hzs) (by decide)) hbs (fun v _ e => e))
      (pu_lawEnd (kk := 5) (i := p) hB (hR.le (by decide)) p0 (by omega) hE (pu_local rfl hsv) (pu_local rfl hp)) fun a c ha hc => (c_eqI ha hc).to (by rw [N.src]; simp))) fun v e => ?_
  exact ⟨e, _, I1, G1.more (Nat.le_succ _) (by omega), ⟨rfl, rfl, rfl, rfl, Nat.le_refl _⟩⟩
theorem s_deed3 (hd : IsI 3 dv) (hk : IsI k kv) (hkc : k < D.cs) (G : Good D b pl) (hpl : pl ≤ 80000) (I : Inv prog w D n) :
    FSpec prog w (.ref 179) [.ref D.B, dv, kv, .ref D.SL, .ref D.ML] 20 n (fun h => Scr h D.script) (Done prog w D b pl) := by
  refine' fspec_of_body (binds := [(Str.ofString "box", .ref D.B), (Str.ofString "deed", dv), (Str.ofString "k", kv), (Str.ofString "states", .ref D.SL), (Str.ofString "models", .ref D.ML)]) ?ho ?hcd ?hbind ?hloc ?hb ?c2 ?c3 ?c4 ?c5
  walk_at "enter"
  rintro A g L hR hB hS _
  have hkm : k < D.cm := by rw [G.cm]; exact hkc
  have c6 := G.c6
  have h6s : D.cs ≤ 1000 := by omega
  have h6 : D.cm ≤ 1000 := by rw [G.cm]; omega
  have N := G.na k hkc
  have hE := endOk_texts _ N.mem
  have hlen : (D.m k).src.length ≤ 9 := hE.1
  refine sx_letPu (P := (· = .ref (D.s k).x)) (pu_state I.kno hkc h6s (pu_local rfl rfl) (pu_local rfl hk)) fun v e => ?_
  subst e
  refine sx_letPu (P := (· = .ref (D.m k).md)) (pu_model I.kno hkm h6 (pu_local rfl rfl) (pu_local rfl hk)) fun v e => ?_
  subst e
  refine sx_letPu (P := IsS (D.m k).src) (pu_mkey I.kno hkm (fun t1 t2 t3 t4 => ⟨_, rfl, ⟨_, rfl⟩⟩) (pu_local rfl rfl) pu_str) fun sv hsv => ?_
  refine sx_letPu (P := (· = .ref (D.m k).mt)) (pu_mkey I.kno hkm (fun t1 t2 t3 t4 => ⟨_, rfl, rfl⟩) (pu_local rfl rfl) pu_str) fun v e => ?_
  subst e
  refine sx_let (tr_drawI (kk := 11) (size := (D.m k).src.length + 3) hB (hR.le (j := 12) (by decide)) hS G (by omega) I (by omega) (pu_local rfl rfl) (pu_add (pu_lenStr hB (by omega) (pu_local rfl hsv)) pu_int)) fun pv n1 q => ?_
  obtain ⟨p, hp, p0, p1, hdr⟩ := q
  obtain ⟨mx, mx0, mx1, I1⟩ := inv_drawn I hdr
  have G1 := G.draw mx0 mx1
  refine sx_skip (pu_testCmp (pu_local rfl hd) pu_int fun a c ha hc => (c_eqI ha hc).to (by decide)) ?_
  refine sx_skip (pu_testCmp (pu_local rfl hd) pu_int fun a c ha hc => (c_eqI ha hc).to (by decide)) ?_
  refine sx_skip (pu_testCmp (pu_local rfl hd) pu_int fun a c ha hc => (c_eqI ha hc).to (by decide)) ?_
  refine sx_ifT (pu_testCmp (pu_local rfl hd) pu_int fun a c ha hc => (c_eqI ha hc).to (by decide)) ?_
  have hbs : Kno g n1 (fun h => BSAt h (D.s k).x (D.s k).f) := I1.kno.imp fun h i => rd_bs (D := D.draw mx) i hkc
  have hzs : (D.s k).f.src.length ≤ sizeLine := by rw [N.src, sizeLine_eq]; omega
  have hzm : (D.m k).src.length ≤ sizeLine := by rw [sizeLine_eq]; omega
  refine sx_retPu (pu_BoolAnd2 (pu_Compare (pu_m1 (P := IsS (Txt.slice (D.s k).f.src (some (D.s k).f.cur) (some p))) hB (hR.le (j := 12) (by decide)) hbs (m_get_text w) (fn_get_text w) (kp_get_text w) (by intros; rfl) (pu_local rfl rfl) (pu_local rfl hp) (fun v hv => FSpec.le (s_get_text hv hzs) (by decide)) hbs (fun v _ e => e))
      (pu_sliceSS hzm (pu_local rfl hsv) (pu_mkey (D := D.draw mx) (P := IsI (D.m k).cur) I1.kno hkm (fun t1 t2 t3 t4 => ⟨_, rfl, ⟨_, rfl⟩⟩) (pu_local rfl rfl) pu_str) (pu_local rfl hp)) fun a c ha hc => (c_eqS ha hc).to (by rw [N.src, N.cur]; simp))
    (pu_Compare (pu_m1 (P := IsS (Txt.slice (D.s k).f.src (some p) (some (lend (D.s k).f.src p)))) hB (hR.le (j := 12) (by decide)) hbs (m_get_line w) (fn_get_line w) (kp_get_line w) (by intros; rfl) (pu_local rfl rfl) (pu_local rfl hp) (fun v hv => FSpec.le (s_get_line hv hzs) (by decide)) hbs (fun v _ e => e))
      (pu_sliceSS hzm (pu_local rfl hsv) (pu_local rfl hp) (pu_lawEnd (kk := 5) (i := p) hB (hR.le (by decide)) p0 (by omega) hE (pu_local rfl hsv) (pu_local rfl hp))) fun a c ha hc => (c_eqS ha hc).to (by rw [N.src]; simp))) fun v e => ?_
  exact ⟨e, _, I1, G1.more (Nat.le_succ _) (by omega), ⟨rfl, rfl, rfl, rfl, Nat.le_refl _⟩⟩
theorem s_deed8 (hd : IsI 8 dv) (hk : IsI k kv) (hkc : k < D.cs) (G : Good D b pl) (hb : b ≤ 500) (hpl : pl ≤ 80000) (I : Inv prog w D n) :
    FSpec prog w (.ref 179) [.ref D.B, dv, kv, .ref D.SL, .ref D.ML] 20 n (fun h => Scr h D.script) (Done prog w D b pl) := by
  refine' fspec_of_body (binds := [(Str.ofString "box", .ref D.B), (Str.ofString "deed", dv), (Str.ofString "k", kv), (Str.ofString "states", .ref D.SL), (Str.ofString "models", .ref D.ML)]) ?ho ?hcd ?hbind ?hloc ?hb ?c2 ?c3 ?c4 ?c5
  walk_at "enter"
  rintro A g L hR hB hS _
  have hkm : k < D.cm := by rw [G.cm]; exact hkc
  have c6 := G.c6
  have h6s : D.cs ≤ 1000 := by omega
  have h6 : D.cm ≤ 1000 := by rw [G.cm]; omega
  have N := G.na k hkc
  have hE := endOk_texts _ N.mem
  have hlen : (D.m k).src.length ≤ 9 := hE.1
  refine sx_letPu (P := (· = .ref (D.s k).x)) (pu_state I.kno hkc h6s (pu_local rfl rfl) (pu_local rfl hk)) fun v e => ?_
  subst e
  refine sx_letPu (P := (· = .ref (D.m k).md)) (pu_model I.kno hkm h6 (pu_local rfl rfl) (pu_local rfl hk)) fun v e => ?_
  subst e
  refine sx_letPu (P := IsS (D.m k).src) (pu_mkey I.kno hkm (fun t1 t2 t3 t4 => ⟨_, rfl, ⟨_, rfl⟩⟩) (pu_local rfl rfl) pu_str) fun sv hsv => ?_
  refine sx_letPu (P := (· = .ref (D.m k).mt)) (pu_mkey I.kno hkm (fun t1 t2 t3 t4 => ⟨_, rfl, rfl⟩) (pu_local rfl rfl) pu_str) fun v e => ?_
  subst e
  refine sx_let (tr_drawI (kk := 11) (size := (D.m k).src.length + 3) hB (hR.le (j := 12) (by decide)) hS G (by omega) I (by omega) (pu_local rfl rfl) (pu_add (pu_lenStr hB (by omega) (pu_local rfl hsv)) pu_int)) fun pv n1 q => ?_
  obtain ⟨p, hp, p0, p1, hdr⟩ := q
  obtain ⟨mx, mx0, mx1, I1⟩ := inv_drawn I hdr
  have G1 := G.draw mx0 mx1
  refine sx_skip (pu_testCmp (pu_local rfl hd) pu_int fun a c ha hc => (c_eqI ha hc).to (by decide)) ?_
  refine sx_skip (pu_testCmp (pu_local rfl hd) pu_int fun a c ha hc => (c_eqI ha hc).to (by decide)) ?_
  refine sx_skip (pu_testCmp (pu_local rfl hd) pu_int fun a c ha hc => (c_eqI ha hc).to (by decide)) ?_
  refine sx_skip (pu_testCmp (pu_local rfl hd) pu_int fun a c ha hc => (c_eqI ha hc).to (by decide)) ?_
  refine sx_skip (pu_testCmp (pu_local rfl hd) pu_int fun a c ha hc => (c_eqI ha hc).to (by decide)) ?_
  refine sx_skip (pu_testCmp (pu_local rfl hd) pu_int fun a c ha hc => (c_eqI ha hc).to (by decide)) ?_
  refine sx_skip (pu_testCmp (pu_local rfl hd) pu_int fun a c ha hc => (c_eqI ha hc).to (by decide)) ?_
  refine sx_skip (pu_testCmp (pu_local rfl hd) pu_int fun a c ha hc => (c_eqI ha hc).to (by decide)) ?_
  refine sx_ifT (pu_testCmp (pu_local rfl hd) pu_int fun a c ha hc => (c_eqI ha hc).to (by decide)) ?_
  have hbs : Kno g n1 (fun h => BSAt h (D.s k).x (D.s k).f) := I1.kno.imp fun h i => rd_bs (D := D.draw mx) i hkc
  have htl : (D.s k).ts.length = (D.m k).ts.length := by have := congrArg List.length N.ts; simpa using this
  have h1 := N.tl
  have hun : A.units + 10 < cLine := by have := hR.un; show A.units + 10 < 9900; omega
  refine sx_retPu (P := (· = .bool true)) (pu_Compare (pu_m0 (P := (· = lastV (refsOf (D.s k).ts))) hB (hR.le (j := 12) (by decide)) hbs (m_last_token w) (fn_last_token w) (kp_last_token w) (by intros; rfl) (pu_local rfl rfl)
      (FSpec.le (s_last_token (vs := refsOf (D.s k).ts) (by rw [sizeLine_eq]; simp; omega)) (by decide)) (hbs.and (I1.kno.imp fun h i => rd_toks (D := D.draw mx) i hkc)) (fun v _ e => e))
    (pu_lawLast (kk := 5) (vs := refsOf (D.m k).ts) hB (hR.le (by decide)) (by simp; omega) (I1.kno.imp fun h i => rd_mt (D := D.draw mx) i hkm) (pu_local rfl rfl)) fun a c ha hc => ?_) fun v e => ?_
  · subst ha hc
    rcases List.eq_nil_or_concat (D.s k).ts with h0 | ⟨r, t, ht⟩
    · have h0' : (D.m k).ts = [] := by rw [← List.length_eq_zero_iff, ← htl, h0]; rfl
      rw [h0, h0']
      exact pu_of fun s _ _ _ _ kk => SeqAt.RcAt.none_none _ _ _ _ (kk _ s.toks rfl)
    · have hm : (D.m k).ts ≠ [] := fun e => by rw [e, ht] at htl; simp at htl
      obtain ⟨r', t', ht'⟩ := (List.eq_nil_or_concat (D.m k).ts).resolve_left hm
      have e : tyx t = tyx t' := by
        have := N.ts
        rw [ht, ht'] at this
        simp only [List.concat_eq_append, List.map_append, List.map_cons, List.map_nil] at this
        have := (List.append_inj' this rfl).2
        simpa using this
      obtain ⟨e1, e2⟩ := Prod.mk.inj e
      have m1 : t ∈ (D.s k).ts := by rw [ht]; simp
      have m2 : t' ∈ (D.m k).ts := by rw [ht']; simp
      have l1 : lastV (refsOf (D.s k).ts) = .ref t.a := by rw [ht]; simp [lastV]
      have l2 : lastV (refsOf (D.m k).ts) = .ref t'.a := by rw [ht']; simp [lastV]
      rw [l1, l2]
      refine pu_of fun s Q E F NN kk => ?_
      obtain ⟨a1, a2⟩ := rd_tok (D := D.draw mx) (I1.kno.here F NN) hkc m1
      obtain ⟨b1, b2⟩ := rd_mtok (D := D.draw mx) (I1.kno.here F NN) hkm m2
      rw [e1, e2] at a1
      exact tok_eq a1 b1 a2 b2 (by omega) (kk _ s.toks rfl)
  exact ⟨e, _, I1, G1.more (Nat.le_succ _) (by omega), ⟨rfl, rfl, rfl, rfl, Nat.le_refl _⟩⟩
end
end Mine
namespace Mine
theorem fill_frag15 : (PySem.Challenge.rw_bq5015_01, hd.heap_39) = (PySem.Challenge.rw_bq5015_01, hd.heap_39) := by k_fill; rfl
local macro_rules | `(tactic| walk_at "enter") => `(tactic| ((case ho => k_is); (case hcd => k_is); (case hbind => exact fun s _ => BindsTo.of_eq rfl); (case hloc => exact locs rfl); (case c2 => exact rfl); (case c3 => exact rfl); (case c4 => exact rfl); (case c5 => decide)))

/-- the part of a ledger at the places X -/
def OnX (N : Led) (X : List Addr) : Led := N.filter fun p => decide (p.1 ∈ X)
theorem onx_mem {N : Led} {X : List Addr} {p : Addr × Obj} : p ∈ OnX N X ↔ p ∈ N ∧ p.1 ∈ X := by unfold OnX; simp
theorem onx_all (N : Led) : OnX N (N.map (·.1)) = N := by
  unfold OnX; rw [List.filter_eq_self]; intro p hp; exact decide_eq_true (List.mem_map_of_mem hp)
theorem onx_new {N : Led} {X : List Addr} {d : Addr} (h : d ∉ X) (hs : (d == sysModules) = false) : New (OnX N X) d :=
  ⟨fun hm => by obtain ⟨p, hp, rfl⟩ := List.mem_map.mp hm; exact h (onx_mem.mp hp).2, hs⟩
theorem onx_kp {N N' : Led} {X X' : List Addr} {a : Addr} (h : Kp N N' a) (hX : ∀ x ∈ X, x ∈ X') : Kp (OnX N X) (OnX N' X') a := fun p hp hne => onx_mem.mpr ⟨h p (onx_mem.mp hp).1 hne, hX _ (onx_mem.mp hp).2⟩
theorem onx_sub {N N' : Led} {X : List Addr} (h : ∀ p ∈ N, p ∈ N') : ∀ p ∈ OnX N X, p ∈ OnX N' X := fun p hp => onx_mem.mpr ⟨h p (onx_mem.mp hp).1, (onx_mem.mp hp).2⟩
theorem onx_trim (N : Led) (X : List Addr) : ∃ X', (∀ x ∈ X', x ∈ X) ∧ (∀ x ∈ X', x ∈ N.map (·.1)) ∧ OnX N X' = OnX N X := by
  refine ⟨X.filter fun x => decide (x ∈ N.map (·.1)), fun x hx => (List.mem_filter.mp hx).1, fun x hx => of_decide_eq_true (List.mem_filter.mp hx).2, ?_⟩
  unfold OnX
  refine List.filter_congr fun p hp => ?_
  have hm : p.1 ∈ N.map (·.1) := List.mem_map_of_mem (f := Prod.fst) hp
  by_cases h : p.1 ∈ X
  · rw [decide_eq_true h]; exact decide_eq_true (List.mem_filter.mpr ⟨h, decide_eq_true hm⟩)
  · rw [decide_eq_false h]; exact decide_eq_false fun e => h (List.mem_filter.mp e).1
section
variable {prog : Program} {w : World} {D : DD} {n n' : Led} {g : Heap} {k : Nat} {b pl : Nat} {A : Around} {s : Shared} {L : Addr} {m : Str → Option Value} {X : List Addr}
theorem Inv.full (I : Inv prog w D (OnX n X)) : Inv prog w D n := I.mono fun p hp => (onx_mem.mp hp).1
theorem inv_drawnX {N1 N' : Led} (I : Inv prog w D (OnX n X)) (hs : ∀ p ∈ n, p ∈ N1) (hd : Drawn D.script D.B D.place N1 N') :
    ∃ mix, 0 ≤ mix ∧ mix < 2147483647 ∧ Inv prog w (D.draw mix) (OnX N' X) ∧ D.B ∈ X ∧ ∀ p ∈ N1, p.1 ≠ D.B → p ∈ N' := by
  obtain ⟨mix, oB, h0, h1, hb, rfl⟩ := hd
  obtain ⟨o, hm, _⟩ := inv_box I
  have hB := (onx_mem.mp hm).2
  have kp : Kp N1 ((D.B, oB) :: drop N1 [D.B]) D.B := Kp.call (l := [(D.B, oB)])
  exact ⟨mix, h0, h1, inv_box_up (I.mono (onx_sub hs)) (onx_mem.mpr ⟨.head _, hB⟩) hb (onx_kp kp fun x h => h), hB, kp⟩
/-- a row of strings to pick from -/
def Rows (g : Heap) (B : Addr) (n : Led) (Y : List Str) (v : Value) (n1 : Led) : Prop :=
  ∃ rl items, v = .ref rl ∧ (∀ p ∈ n, p ∈ n1) ∧ Kno g (drop n1 [B]) (fun h => h.IsList rl items.toArray) ∧ 0 < items.length ∧ items.length < 1000 ∧ StrL items Y
section
variable {cn : Str} {cs : Scope} {a : Addr} {ccd : Value} {pos p : Pos} {e1 e2 : Expr}
/-- _law_pick(box, rows) -/
theorem tr_pickX {Y : List Str} {kk : Nat} (hB : Bas w g) (hR : Room A (kk + 3)) (hS : Scr g D.script) (G : Good D b pl) (hpl : pl ≤ 90000) (I : Inv prog w D (OnX n X))
    (hx1 : Pu prog w A g L m n (eval e1 (envOf cn cs L a ccd)) (· = .ref D.B)) (hx2 : Tr prog w A g L m n (eval e2 (envOf cn cs L a ccd)) (Rows g D.B n Y))
    (hk : cs.kind = .function := by rfl) (hx : (envOf cn cs L a ccd).kindOf (Str.ofString "_law_pick") = some .globalImplicit := by rfl)
    (he : eval (.Call (.Name (Str.ofString "_law_pick") p) [e1, e2] [] pos) (envOf cn cs L a ccd) = (do callWith pos (← eval (.Name (Str.ofString "_law_pick") p) (envOf cn cs L a ccd)) [] (backTo pos (starEach [e1, e2] (envOf cn cs L a ccd))) (backToKw pos (keywordEach [] (envOf cn cs L a ccd)))) := by rfl)
    (hs1 : starEach [e1, e2] (envOf cn cs L a ccd) = (false, eval e1 (envOf cn cs L a ccd)) :: starEach [e2] (envOf cn cs L a ccd) := by rfl) (hs2 : starEach [e2] (envOf cn cs L a ccd) = (false, eval e2 (envOf cn cs L a ccd)) :: starEach [] (envOf cn cs L a ccd) := by rfl)
    (hp1 : (backTo pos (starEach [e2] (envOf cn cs L a ccd))).any (·.1) = false := by rfl) :
    Tr prog w A g L m n (eval (.Call (.Name (Str.ofString "_law_pick") p) [e1, e2] [] pos) (envOf cn cs L a ccd))
      (fun v N' => ∃ x ∈ Y, IsS x v ∧ ∃ mix, 0 ≤ mix ∧ mix < 2147483647 ∧ Inv prog w (D.draw mix) (OnX N' X) ∧ D.B ∈ X ∧ ∀ p ∈ n, p.1 ≠ D.B → p ∈ N') := by
  obtain ⟨vs, ns, hI, h63, hl⟩ := hS.ex
  obtain ⟨oB, hm, hb⟩ := inv_box I
  have hm := (onx_mem.mp hm).1
  refine tr_Call (pu_K hB (g_law_pick w) rfl hk hx rfl) (tr_callWith hB (k_law_pick w) (tr_args (P := fun v n1 => n1 = n ∧ v = .ref D.B) (Ps := fun us n1 => ∃ v, us = [.ref D.B, v] ∧ Rows g D.B n Y v n1) hx1 (fun v n1 q => ?_) hs1) (fun us n1 q => ?_) hs1 hp1) he
  · obtain ⟨rfl, rfl⟩ := q
    refine tr_args (Ps := fun us n1 => ∃ v, Value.ref D.B :: us = [.ref D.B, v] ∧ Rows g D.B _ Y v n1) hx2 (fun v n2 q => ?_) hs2
    exact Tr.mono pu_args0 fun us n3 z => by obtain ⟨rfl, rfl⟩ := z; exact ⟨v, rfl, q⟩
  · obtain ⟨v, rfl, rl, items, rfl, hsub, hk2, h0, hz, hX⟩ := q
    refine Tr.mono (tr_call (s_pick hb h0 hz G.pl0 (by have := G.pl1; omega) G.m0 G.m1 hI h63) (hR.le (by omega)) hB (fun q hq => by
      have : q = (D.B, oB) := by simpa using hq
      subst this; exact hsub _ hm) ((Kno.of hl fun h h' k b => b.at fun o e => k _ _ e).and hk2)) fun v N' q => ?_
    obtain ⟨n', ⟨i, hi, mix', oB', m0', m1', hb', rfl⟩, rfl, _⟩ := q
    obtain ⟨x, hx, hxs⟩ := hX i v hi
    have e : drop [(D.B, oB)] [D.B] = [] := by simp [drop]
    rw [e]
    obtain ⟨mix, q0, q1, q2, q3, q4⟩ := inv_drawnX I hsub ⟨mix', oB', m0', m1', hb', rfl⟩
    exact ⟨x, hx, hxs, mix, q0, q1, q2, q3, fun p hp hne => q4 p (hsub p hp) hne⟩
/-- a global row -/
theorem rows_K {x : Str} {rl : Addr} {items : List Value} {Y : List Str} {B : Addr} (hB : Bas w g) (e : nsIn (KF w) mainGlobals x = some (some (.ref rl))) (hl : g.IsList rl items.toArray) (h0 : 0 < items.length) (hz : items.length < 1000) (hY : StrL items Y)
    (hk : cs.kind = .function := by rfl) (hx : (envOf cn cs L a ccd).kindOf x = some .globalImplicit := by rfl) (hd : (x == ("__debug__" : Str)) = false := by rfl) :
    Tr prog w A g L m n (eval (.Name x pos) (envOf cn cs L a ccd)) (Rows g B n Y) :=
  Tr.mono (pu_K (P := (· = .ref rl)) hB e rfl hk hx hd) fun v n' q => by
    obtain ⟨rfl, rfl⟩ := q
    exact ⟨rl, items, rfl, fun p h => h, Kno.of hl fun h h' k b => b.at fun o e => k _ _ e, h0, hz, hY⟩
end
/-- a written row -/
theorem rows_L {env : Env} {pos : Pos} {elts : List Expr} {Y : List Str} {B : Addr} {o : Obj} (hB : Bas w g) (hm : (B, o) ∈ n) (h : Pu prog w A g L m n (spliced (backTo pos (starEach elts env))) (fun vs => 0 < vs.length ∧ vs.length < 1000 ∧ StrL vs Y)) :
    Tr prog w A g L m n (eval (.List elts pos) env) (Rows g B n Y) :=
  tr_List hB h fun vs n1 q => by
    obtain ⟨rfl, h0, hz, hY⟩ := q
    refine ⟨by omega, fun a ha => ⟨a, vs, rfl, fun p hp => .tail _ hp, ?_, h0, hz, hY⟩⟩
    have hne : a ≠ B := fun e => ha.1 (by rw [e]; exact List.mem_map_of_mem (f := Prod.fst) hm)
    exact fun h _ q => ⟨_, q _ (mem_drop (.head _) (by simpa using hne)), rfl, _, rfl⟩
end
end Mine
namespace Mine
theorem fill_frag16 : (PySem.Challenge.rw_bq5015_01, hd.heap_39) = (PySem.Challenge.rw_bq5015_01, hd.heap_39) := by k_fill; rfl
local macro_rules | `(tactic| walk_at "enter") => `(tactic| ((case ho => k_is); (case hcd => k_is); (case hbind => exact fun s _ => BindsTo.of_eq rfl); (case hloc => exact locs rfl); (case c2 => exact rfl); (case c3 => exact rfl); (case c4 => exact rfl); (case c5 => decide)))


section
variable {prog : Program} {w : World} {D : DD} {n n' : Led} {g : Heap} {k : Nat} {b pl : Nat} {A : Around} {s : Shared} {L : Addr} {m : Str → Option Value} {X : List Addr}
theorem refs_push (ts : List Tk) (t : Tk) (c : Nat) : IsRefs ((ts ++ [t]).map (·.a)) (listOf (refsOf ts ++ [Value.ref t.a]).toArray c) := ⟨c, by simp⟩
/-- append_token -/
theorem tr_appX {c : Addr} {oc : Obj} {ty tx : Str} (hB : Bas w g) (hR : Room A 2) (I : Inv prog w D (OnX n X)) (hk : k < D.cs) (hlen : (D.s k).ts.length ≤ 900) (hc : c ∉ X) (hcs : (c == sysModules) = false) (hm : (c, oc) ∈ n) (ht : IsTok prog w ty tx oc) :
    Tr prog w A g L m n (call (.ref 93) [.ref (D.s k).x, .ref c]) (fun v n' => Inv prog w (D.setS k { D.s k with ts := (D.s k).ts ++ [⟨c, ty, tx⟩] }) (OnX n' (c :: X)) ∧ (D.s k).f.T ∈ X ∧ Kp n n' (D.s k).f.T) := by
  obtain ⟨cc, hT⟩ := inv_toks I hk
  have hTX := (onx_mem.mp hT).2
  have hT' := (onx_mem.mp hT).1
  have hcT : c ≠ (D.s k).f.T := fun e => hc (e ▸ hTX)
  obtain ⟨mi, hne⟩ := inv_inst I hk
  obtain ⟨od, md, hbs⟩ := inv_bs I hk
  have mi := (onx_mem.mp mi).1
  have md := (onx_mem.mp md).1
  obtain ⟨σ, R, S⟩ := id I
  have hxT : (D.s k).x ≠ (D.s k).f.T := Rep.ne (R (.s k) hk).1 (R (.s k) hk).2.2.1 (by simp)
  have hdT : (D.s k).dx ≠ (D.s k).f.T := Rep.ne (R (.s k) hk).2.1 (R (.s k) hk).2.2.1 (by simp)
  refine Tr.mono (tr_call (s_append_token (f := (D.s k).f) (vs := refsOf (D.s k).ts) (k := cc) (v := .ref c) (by simp; omega)) hR hB (fun q hq => by
    have : q = ((D.s k).f.T, listOf (refsOf (D.s k).ts).toArray cc) := by simpa using hq
    subst this; exact hT') (fun h _ q => ⟨(D.s k).dx, od, q _ (mem_drop mi (by simpa using hxT)), q _ (mem_drop md (by simpa using hdT)), hbs⟩)) fun v N' q => ?_
  obtain ⟨n', ⟨_, rfl⟩, rfl, _⟩ := q
  have kp : Kp n ([((D.s k).f.T, listOf (refsOf (D.s k).ts ++ [Value.ref c]).toArray (cc + 1))] ++ drop n [(D.s k).f.T]) (D.s k).f.T := Kp.call
  refine ⟨inv_push (t := ⟨c, ty, tx⟩) (ts' := (D.s k).ts ++ [⟨c, ty, tx⟩]) (o' := listOf (refsOf (D.s k).ts ++ [Value.ref c]).toArray (cc + 1)) I hk (onx_new hc hcs) (onx_mem.mpr ⟨List.mem_append_right _ (mem_drop hm (by simpa using hcT)), .head _⟩) ht (onx_mem.mpr ⟨.head _, .tail _ hTX⟩) (refs_push (D.s k).ts ⟨c, ty, tx⟩ (cc + 1)) (List.perm_append_comm) (onx_kp kp fun x h => .tail _ h), hTX, kp⟩
theorem kl_ins_last (r : List Value) (t v : Value) : kl_ins (r ++ [t]) (((r ++ [t]).length : Int) - 1) v = r ++ [v, t] := by
  unfold kl_ins
  simp
  rw [if_neg (by omega)]
  simp
/-- prepend_token -/
theorem tr_preX {c : Addr} {oc : Obj} {ty tx : Str} {ts' : List Tk} (hB : Bas w g) (hR : Room A 2) (I : Inv prog w D (OnX n X)) (hk : k < D.cs) (hlen : (D.s k).ts.length ≤ 900) (hc : c ∉ X) (hcs : (c == sysModules) = false) (hm : (c, oc) ∈ n) (ht : IsTok prog w ty tx oc)
    (hts : ts' = (D.s k).ts.dropLast ++ [⟨c, ty, tx⟩] ++ ((D.s k).ts.getLast?).toList) :
    Tr prog w A g L m n (call (.ref 86) [.ref (D.s k).x, .ref c]) (fun v n' => Inv prog w (D.setS k { D.s k with ts := ts' }) (OnX n' (c :: X)) ∧ (D.s k).f.T ∈ X ∧ Kp n n' (D.s k).f.T) := by
  obtain ⟨cc, hT⟩ := inv_toks I hk
  have hTX := (onx_mem.mp hT).2
  have hT' := (onx_mem.mp hT).1
  have hcT : c ≠ (D.s k).f.T := fun e => hc (e ▸ hTX)
  obtain ⟨mi, hne⟩ := inv_inst I hk
  obtain ⟨od, md, hbs⟩ := inv_bs I hk
  have mi := (onx_mem.mp mi).1
  have md := (onx_mem.mp md).1
  obtain ⟨σ, R, S⟩ := id I
  have hxT : (D.s k).x ≠ (D.s k).f.T := Rep.ne (R (.s k) hk).1 (R (.s k) hk).2.2.1 (by simp)
  have hdT : (D.s k).dx ≠ (D.s k).f.T := Rep.ne (R (.s k) hk).2.1 (R (.s k) hk).2.2.1 (by simp)
  have hins : kl_ins (refsOf (D.s k).ts) (((refsOf (D.s k).ts).length : Int) - 1) (.ref c) = refsOf ts' := by
    rw [hts]
    rcases List.eq_nil_or_concat (D.s k).ts with h0 | ⟨r, t, h0⟩
    · rw [h0]; rfl
    · rw [h0]
      have e : refsOf (r.concat t) = refsOf r ++ [.ref t.a] := by simp
      rw [e, kl_ins_last]
      simp
  refine Tr.mono (tr_call (s_prepend_token (f := (D.s k).f) (vs := refsOf (D.s k).ts) (k := cc) (v := .ref c) (by simp; omega)) hR hB (fun q hq => by
    have : q = ((D.s k).f.T, listOf (refsOf (D.s k).ts).toArray cc) := by simpa using hq
    subst this; exact hT') (fun h _ q => ⟨(D.s k).dx, od, q _ (mem_drop mi (by simpa using hxT)), q _ (mem_drop md (by simpa using hdT)), hbs⟩)) fun v N' q => ?_
  obtain ⟨n', ⟨_, rfl⟩, rfl, _⟩ := q
  rw [hins]
  have kp : Kp n ([((D.s k).f.T, listOf (refsOf ts').toArray (cc + 1))] ++ drop n [(D.s k).f.T]) (D.s k).f.T := Kp.call
  refine ⟨inv_push (t := ⟨c, ty, tx⟩) (ts' := ts') I hk (onx_new hc hcs) (onx_mem.mpr ⟨List.mem_append_right _ (mem_drop hm (by simpa using hcT)), .head _⟩) ht (onx_mem.mpr ⟨.head _, .tail _ hTX⟩) ⟨_, rfl⟩ ?_ (onx_kp kp fun x h => .tail _ h), hTX, kp⟩
  rw [hts]
  rcases List.eq_nil_or_concat (D.s k).ts with h0 | ⟨r, t, h0⟩
  · rw [h0]; simp
  · rw [h0]; simp
/-- tokens.append(token) of the model -/
theorem tr_mappX {c : Addr} {oc : Obj} {ty tx : Str} (I : Inv prog w D (OnX n X)) (hk : k < D.cm) (hlen : (D.m k).ts.length ≤ 900) (hc : c ∉ X) (hcs : (c == sysModules) = false) (hm : (c, oc) ∈ n) (ht : IsTok prog w ty tx oc) :
    Tr prog w A g L m n (call (.builtin "list.append") [.ref (D.m k).mt, .ref c]) (fun v n' => Inv prog w (D.setM k { D.m k with ts := (D.m k).ts ++ [⟨c, ty, tx⟩] }) n') := by
  obtain ⟨cc, hT⟩ := inv_mt I hk
  have hTX := (onx_mem.mp hT).2
  have hT' := (onx_mem.mp hT).1
  have hcT : c ≠ (D.m k).mt := fun e => hc (e ▸ hTX)
  refine tr_append hT' (by rw [sizeLine_eq]; simp; omega) ?_
  have I2 := inv_mpush (t := ⟨c, ty, tx⟩) (ts' := (D.m k).ts ++ [⟨c, ty, tx⟩]) (o' := listOf ((((D.m k).ts.map (·.a)).map Value.ref).toArray.push (.ref c)) (cc + 1)) (n' := put n (D.m k).mt (listOf ((((D.m k).ts.map (·.a)).map Value.ref).toArray.push (.ref c)) (cc + 1))) I hk (onx_new hc hcs) (mem_put hm hcT) ht (put_self _ _ _) ⟨cc + 1, by simp⟩ (List.perm_append_comm) (fun p hp hne => mem_put (onx_mem.mp hp).1 hne)
  exact I2
end
section
variable {prog : Program} {w : World} {D : DD} {n : Led} {k : Nat} {b pl : Nat} {dv kv : Value}
theorem s_deed4 (hd : IsI 4 dv) (hk : IsI k kv) (hkc : k < D.cs) (G : Good D b pl) (hb : b ≤ 500) (hpl : pl ≤ 80000) (I : Inv prog w D n) :
    FSpec prog w (.ref 179) [.ref D.B, dv, kv, .ref D.SL, .ref D.ML] 20 n (fun h => Scr h D.script) (Done prog w D b pl) := by
  refine' fspec_of_body (binds := [(Str.ofString "box", .ref D.B), (Str.ofString "deed", dv), (Str.ofString "k", kv), (Str.ofString "states", .ref D.SL), (Str.ofString "models", .ref D.ML)]) ?ho ?hcd ?hbind ?hloc ?hb ?c2 ?c3 ?c4 ?c5
  walk_at "enter"
  rintro A g L hR hB hS _
  have hkm : k < D.cm := by rw [G.cm]; exact hkc
  have c6 := G.c6
  have h6s : D.cs ≤ 1000 := by omega
  have h6 : D.cm ≤ 1000 := by rw [G.cm]; omega
  have N := G.na k hkc
  have hE := endOk_texts _ N.mem
  have hlen : (D.m k).src.length ≤ 9 := hE.1
  refine sx_letPu (P := (· = .ref (D.s k).x)) (pu_state I.kno hkc h6s (pu_local rfl rfl) (pu_local rfl hk)) fun v e => ?_
  subst e
  refine sx_letPu (P := (· = .ref (D.m k).md)) (pu_model I.kno hkm h6 (pu_local rfl rfl) (pu_local rfl hk)) fun v e => ?_
  subst e
  refine sx_letPu (P := IsS (D.m k).src) (pu_mkey I.kno hkm (fun t1 t2 t3 t4 => ⟨_, rfl, ⟨_, rfl⟩⟩) (pu_local rfl rfl) pu_str) fun sv hsv => ?_
  refine sx_letPu (P := (· = .ref (D.m k).mt)) (pu_mkey I.kno hkm (fun t1 t2 t3 t4 => ⟨_, rfl, rfl⟩) (pu_local rfl rfl) pu_str) fun v e => ?_
  subst e
  refine sx_let (tr_drawI (kk := 11) (size := (D.m k).src.length + 3) hB (hR.le (j := 12) (by decide)) hS G (by omega) I (by omega) (pu_local rfl rfl) (pu_add (pu_lenStr hB (by omega) (pu_local rfl hsv)) pu_int)) fun pv n1 q => ?_
  obtain ⟨p, hp, p0, p1, hdr⟩ := q
  obtain ⟨mx, mx0, mx1, I1⟩ := inv_drawn I hdr
  have G1 := G.draw mx0 mx1
  refine sx_skip (pu_testCmp (pu_local rfl hd) pu_int fun a c ha hc => (c_eqI ha hc).to (by decide)) ?_
  refine sx_skip (pu_testCmp (pu_local rfl hd) pu_int fun a c ha hc => (c_eqI ha hc).to (by decide)) ?_
  refine sx_skip (pu_testCmp (pu_local rfl hd) pu_int fun a c ha hc => (c_eqI ha hc).to (by decide)) ?_
  refine sx_skip (pu_testCmp (pu_local rfl hd) pu_int fun a c ha hc => (c_eqI ha hc).to (by decide)) ?_
  refine sx_ifT (pu_testCmp (pu_local rfl hd) pu_int fun a c ha hc => (c_eqI ha hc).to (by decide)) ?_
  have htl : (D.s k).ts.length = (D.m k).ts.length := by have := congrArg List.length N.ts; simpa using this
  have h1 := N.tl
  obtain ⟨items, hil, hi4, hiX⟩ := pieces_list hB
  obtain ⟨X, hX⟩ : ∃ X, X = n1.map (·.1) := ⟨_, rfl⟩
  have I1 : Inv prog w (D.draw mx) (OnX n1 X) := by rw [hX, onx_all]; exact I1
  refine sx_let (P := fun v n' => ∃ d x y od mx2 mx3, v = .ref d ∧ d ∉ X ∧ (d == sysModules) = false ∧ y ∈ pieces ∧ IsTok prog w x y od ∧ (d, od) ∈ n' ∧ Inv prog w (((D.draw mx).draw mx2).draw mx3) (OnX n' X) ∧ Good (((D.draw mx).draw mx2).draw mx3) b (pl + 3)) (tr_Dict hB (h := fun d o hn ho => ?_)) fun v n2 q => ?_
  · have hdX : d ∉ X := by rw [hX]; exact hn.1
    obtain ⟨oB, hmB, _⟩ := inv_box I1
    have hBX : D.B ∈ X := (onx_mem.mp hmB).2
    have hmB : (D.B, oB) ∈ n1 := (onx_mem.mp hmB).1
    have hdB : d ≠ D.B := fun e => hdX (e ▸ hBX)
    refine tr_pairs (Pv := fun v n' => ∃ x ∈ [Str.ofString "paragraph", Str.ofString "heading", Str.ofString "x"], IsS x v ∧ ∃ mix, 0 ≤ mix ∧ mix < 2147483647 ∧ Inv prog w ((D.draw mx).draw mix) (OnX n' X) ∧ D.B ∈ X ∧ ∀ p ∈ (d, o) :: n1, p.1 ≠ D.B → p ∈ n') pu_str
      (tr_pickX (D := D.draw mx) (kk := 9) hB (hR.le (j := 12) (by decide)) hS G1 (by omega) (I1.mono (onx_sub fun p hp => .tail _ hp)) (pu_local rfl rfl) (rows_L hB (.tail _ hmB) (Pu.mono (pu_args pu_str (pu_args pu_str (pu_args pu_str pu_args0))) fun vs q => ?_))) fun kv1 v1 n3 hk1 q => ?_
    · obtain ⟨v1, r1, rfl, q1, v2, r2, rfl, q2, v3, r3, rfl, q3, rfl⟩ := q
      refine ⟨by simp, by simp, fun i v hv => ?_⟩
      have hm := List.mem_of_getElem? hv
      simp only [List.mem_cons, List.not_mem_nil, or_false] at hm
      rcases hm with rfl | rfl | rfl
      · exact ⟨_, .head _, q1⟩
      · exact ⟨_, .tail _ (.head _), q2⟩
      · exact ⟨_, .tail _ (.tail _ (.head _)), q3⟩
    obtain ⟨x, hx, hxv, mx2, mx20, mx21, I2, _, hk2⟩ := q
    have G2 := G1.draw mx20 mx21
    refine tr_pairs (Pv := fun v n' => ∃ y ∈ pieces, IsS y v ∧ ∃ mix, 0 ≤ mix ∧ mix < 2147483647 ∧ Inv prog w (((D.draw mx).draw mx2).draw mix) (OnX n' X) ∧ D.B ∈ X ∧ ∀ p ∈ n3, p.1 ≠ D.B → p ∈ n') pu_str
      (tr_pickX (D := (D.draw mx).draw mx2) (kk := 9) hB (hR.le (j := 12) (by decide)) hS G2 (by omega) I2 (pu_local rfl rfl) (rows_K hB (g_law_pieces w) hil (by omega) (by omega) hiX)) fun kv2 v2 n4 hk2' q => ?_
    obtain ⟨y, hy, hyv, mx3, mx30, mx31, I3, _, hk3⟩ := q
    have G3 := G2.draw mx30 mx31
    obtain ⟨u1, rfl⟩ := hk1
    obtain ⟨u2, rfl⟩ := hk2'
    obtain ⟨u3, rfl⟩ := hxv
    obtain ⟨u4, rfl⟩ := hyv
    have hd4 : (d, o) ∈ n4 := hk3 _ (hk2 _ (.head _) hdB) hdB
    refine tr_pairs0 ⟨hd4, rfl, (show [sType, sText].Nodup from by decide +kernel), fun o' ho' => ⟨d, x, y, o', mx2, mx3, rfl, hdX, hn.2, hy, ⟨u3, u4, ho'⟩, put_self _ _ _, I3.mono fun p hp => ?_, G3⟩⟩
    refine onx_mem.mpr ⟨mem_put (onx_mem.mp hp).1 ?_, (onx_mem.mp hp).2⟩
    exact fun e => hdX (e ▸ (onx_mem.mp hp).2)
  obtain ⟨d, x, y, od, mx2, mx3, rfl, hdX, hds, hy, htok, hdm, I4, G4⟩ := q
  obtain ⟨D3, hD3⟩ : ∃ D3, D3 = ((D.draw mx).draw mx2).draw mx3 := ⟨_, rfl⟩
  have hyl : y.length ≤ 5 := by
    have : ∀ z ∈ pieces, z.length ≤ 5 := by decide +kernel
    exact this y hy
  obtain ⟨X', hXX, hXN, eX⟩ := onx_trim n2 X
  rw [← eX] at I4
  have hdX' : d ∉ X' := fun h => hdX (hXX _ h)
  refine sx_expr (P := fun v n' => ∃ c X2, d ∉ X2 ∧ Inv prog w ((((D.draw mx).draw mx2).draw mx3).setS k { D.s k with ts := (D.s k).ts ++ [⟨c, x, y⟩] }) (OnX n' X2) ∧ (d, od) ∈ n') (tr_Method (pu_local (P := (· = .ref (D.s k).x)) rfl rfl) fun ov q => ?_) fun u n5 q => ?_
  · subst q
    refine ⟨_, _, pu_meth hB (I4.full.kno.imp fun h i => rd_bs (D := ((D.draw mx).draw mx2).draw mx3) i hkc) (m_append_token w) (fn_append_token w) (by intros; rfl), tr_callWith (Pargs := fun us n' => ∃ c oc, us = [.ref c] ∧ New n2 c ∧ IsTok prog w x y oc ∧ n' = (c, oc) :: n2) hB (kp_append_token w)
      (tr_args (P := fun v n' => ∃ c oc, v = .ref c ∧ New n2 c ∧ IsTok prog w x y oc ∧ n' = (c, oc) :: n2) (tr_Call (pu_B hB (b_dict w) rfl (by decide) rfl) (tr_callWithB (fun a e => by cases e) (pu_args (pu_local (P := (· = .ref d)) rfl rfl) pu_args0) fun vs n5 q => ?_)) fun v n5 q => ?_) fun us n5 q => ?_⟩
    · obtain ⟨rfl, v, r, rfl, rfl, rfl⟩ := q
      obtain ⟨t1, t2, hd'⟩ := htok
      exact tr_dictCopy hB hds (fun h _ q => Heap.dictOf_iff.mpr ⟨od, q _ hdm, hd'⟩) (by simp) fun c oc hc ho => ⟨c, oc, rfl, hc, ⟨t1, t2, ho⟩, rfl⟩
    · obtain ⟨c, oc, rfl, hc, ho, rfl⟩ := q
      exact Tr.mono pu_args0 fun r n' q => by obtain ⟨rfl, rfl⟩ := q; exact ⟨c, oc, rfl, hc, ho, rfl⟩
    · obtain ⟨c, oc, rfl, hc, ho, rfl⟩ := q
      have hcd : c ≠ d := fun e => hc.1 (by rw [e]; exact List.mem_map_of_mem (f := Prod.fst) hdm)
      have hcX : c ∉ X' := fun hm => hc.1 (hXN _ hm)
      refine Tr.mono (tr_appX (D := ((D.draw mx).draw mx2).draw mx3) hB (hR.le (by decide)) (I4.mono (onx_sub fun p hp => .tail _ hp)) hkc (by show (D.s k).ts.length ≤ 900; omega) hcX hc.2 (.head _) ho) fun v n' q => ?_
      obtain ⟨q1, q2, q3⟩ := q
      exact ⟨c, c :: X', fun h => (List.mem_cons.mp h).elim (fun h => hcd h.symm) hdX', q1, q3 _ (.tail _ hdm) fun e => hdX' (by rw [show d = _ from e]; exact q2)⟩
  obtain ⟨c, X2, hdX2, I5, hdm5⟩ := q
  refine sx_expr (P := fun v n' => Inv prog w (((((D.draw mx).draw mx2).draw mx3).setS k { D.s k with ts := (D.s k).ts ++ [⟨c, x, y⟩] }).setM k { D.m k with ts := (D.m k).ts ++ [⟨d, x, y⟩] }) n') (tr_Method (pu_local (P := (· = .ref (D.m k).mt)) rfl rfl) fun ov q => ?_) fun u n6 I6 => sx_retPu pu_bool fun v e => ?_
  · subst q
    have hTy : Kno g n5 (fun h => ∀ s : Shared, s.heap = h → s.TypeIs (.ref (D.m k).mt) "list") := I5.full.kno.imp fun h i s e => by
      subst e
      obtain ⟨o, ho, hc, _⟩ := rd_mt (D := (((D.draw mx).draw mx2).draw mx3).setS k { D.s k with ts := (D.s k).ts ++ [⟨c, x, y⟩] }) i hkm
      exact ⟨o, ho, hc⟩
    have hdc : Kno g n5 (fun h => ∃ o, h.get? (D.m k).mt = some o ∧ o.dict = none) := I5.full.kno.imp fun h i => i.cell (fun σ R => (R (.m k) hkm).2.1) fun o ho hh _ => ⟨o, ho, by obtain ⟨c, rfl⟩ := hh; rfl⟩
    refine ⟨_, _, pu_getB (T := "list") hTy PySem.F.plainAttrs_list PySem.F.slot_list_append PySem.F.type_list_append (fun a e => by cases e; exact hdc),
      tr_callWithB (fun a e => by cases e) (pu_args (pu_local (P := (· = .ref d)) rfl rfl) pu_args0) fun us n6 q => ?_⟩
    obtain ⟨rfl, v, r, rfl, rfl, rfl⟩ := q
    exact tr_mappX (D := (((D.draw mx).draw mx2).draw mx3).setS k { D.s k with ts := (D.s k).ts ++ [⟨c, x, y⟩] }) I5 hkm (by show (D.m k).ts.length ≤ 900; omega) hdX2 hds hdm5 htok
  refine ⟨e, _, I6, ?_, ⟨rfl, rfl, rfl, rfl, Nat.le_refl _⟩⟩
  refine Good.more (Good.upd G4 hkc ?_ ?_ ?_ ?_ ?_ ?_ ?_ (Nat.le_succ b)) (Nat.le_refl _) (by omega)
  any_goals rfl
  refine { src := N.src, mem := N.mem, sl := N.sl, ml := N.ml, cur := N.cur, c0 := N.c0, c1 := N.c1, ts := ?_, tl := ?_, tx := fun t ht => ?_, lz := N.lz, lk := N.lk }
  · show ((D.s k).ts ++ [_]).map tyx = ((D.m k).ts ++ [_]).map tyx
    rw [List.map_append, List.map_append, N.ts]; rfl
  · show ((D.m k).ts ++ [_]).length ≤ b + 1
    simp; omega
  · have ht : t ∈ (D.m k).ts ++ [_] := ht
    rcases List.mem_append.mp ht with ht | ht
    · exact Nat.le_trans (N.tx t ht) (by omega)
    · simp only [List.mem_singleton] at ht
      subst ht
      show y.length ≤ _
      omega
end
end Mine
namespace Mine
theorem fill_frag17 : (PySem.Challenge.rw_bq5015_01, hd.heap_39) = (PySem.Challenge.rw_bq5015_01, hd.heap_39) := by k_fill; rfl
local macro_rules | `(tactic| walk_at "enter") => `(tactic| ((case ho => k_is); (case hcd => k_is); (case hbind => exact fun s _ => BindsTo.of_eq rfl); (case hloc => exact locs rfl); (case c2 => exact rfl); (case c3 => exact rfl); (case c4 => exact rfl); (case c5 => decide)))



section
variable {prog : Program} {w : World} {D : DD} {n n' : Led} {g : Heap} {k : Nat} {b pl : Nat} {A : Around} {s : Shared} {L : Addr} {m : Str → Option Value} {X : List Addr} {env : Env} {pos p : Pos} {o : Expr} {p1 p2 : Option Expr}
theorem pick_init (vs : List Value) : slicePick vs.toArray none (some (-1)) none = vs.dropLast.toArray := by
  have := slicePick_butLast vs.toArray 1 (Nat.le_refl _)
  rw [show (-((1 : Nat) : Int)) = -1 from rfl] at this
  rw [this, List.dropLast_eq_take]; rfl
theorem pick_tail (vs : List Value) : slicePick vs.toArray (some (-1)) none none = vs.getLast?.toList.toArray := by
  have := slicePick_last vs.toArray 1 (Nat.le_refl _)
  rw [show (-((1 : Nat) : Int)) = -1 from rfl] at this
  rw [this]
  congr 1
  rcases List.eq_nil_or_concat vs with h0 | ⟨r, t, h0⟩
  · rw [h0]; rfl
  · rw [h0]; simp
/-- a list made behind a ledger -/
def Mk (n : Led) (xs : List Value) (v : Value) (n1 : Led) : Prop := ∃ a, v = .ref a ∧ New n a ∧ (a, listOf xs.toArray 0) ∈ n1 ∧ ∀ p ∈ n, p ∈ n1
theorem New.lt {a : Addr} (h : New n' a) (hs : ∀ p ∈ n, p ∈ n') : New n a := h.sub fun p hp => List.mem_map_of_mem (f := Prod.fst) (hs p hp)
theorem tr_sliceN {l : Addr} {items : Array Value} {lo hi : Option Int} (B : Bas w g) (hl : Kno g n (fun h => h.IsList l items)) (hz : items.size ≤ sizeLine) (ho : Pu prog w A g L m n (eval o env) (· = .ref l))
    (h1 : Pu prog w A g L m n (evalPart p1 env) (fun v => IsPart v lo)) (h2 : Pu prog w A g L m n (evalPart p2 env) (fun v => IsPart v hi)) (ht : ∀ r, letTemporaryGo o (.ref l) r = pure () := by intro _; rfl) :
    Tr prog w A g L m n (eval (.Subscript o (.Slice p1 p2 none p) pos) env) (fun v n' => ∃ a, v = .ref a ∧ New n a ∧ n' = (a, listOf (slicePick items lo hi none) 0) :: n) :=
  ⟨fun s Q E F N k => Subscript_ (ho.run F N fun v ha tka pa Fa Na => wpAny_Slice (h1.run Fa Na fun v1 hb tkb pb Fb Nb => h2.run Fb Nb fun v2 hc tkc pc Fc Nc => evalPart_none_step (by
    subst pa
    exact slice_list (s := { s with heap := hc, toks := tkc }) Fc Nc (hl.here Fc Nc) pb pc (fun h' F' N' => k _ h' _ _ ⟨_, rfl, New.of_none B Fc Nc (by
      cases hx : hc.get? (hc.objs.size + 1) with
      | none => rfl
      | some o => exact absurd (Heap.lt_size hx) (Nat.not_lt.mpr (Nat.le_succ _))) (Nat.lt_succ_of_lt Fc.ns.lt), rfl⟩ F' N') (by with_unfolding_all rfl) ht hz)))⟩
theorem toList_le {α : Type} (o : Option α) : o.toList.length ≤ 1 := by cases o <;> simp
theorem tr_addMk {l r : Expr} {xs ys : List Value} (hB : Bas w g) (hz : xs.length + ys.length ≤ 1000) (hl : Tr prog w A g L m n (eval l env) (Mk n xs)) (hr : ∀ n1, (∀ p ∈ n, p ∈ n1) → Tr prog w A g L m n1 (eval r env) (Mk n1 ys)) :
    Tr prog w A g L m n (eval (.BinOp l .Add r pos) env) (Mk n (xs ++ ys)) :=
  tr_BinOp (Pr := fun a v n2 => ∃ n1, Mk n xs a n1 ∧ Mk n1 ys v n2) hl (fun a n1 q => Tr.mono (hr n1 q.choose_spec.2.2.2) fun v n2 z => ⟨n1, q, z⟩) fun a v n2 q => by
    obtain ⟨n1, ⟨x, rfl, hx, hxm, hs1⟩, y, rfl, hy, hym, hs2⟩ := q
    refine tr_addList hB (fun h _ q => ⟨_, q _ (hs2 _ hxm), rfl, _, rfl⟩) (fun h _ q => ⟨_, q _ hym, rfl, _, rfl⟩) hz fun c hc => ⟨c, rfl, hc.lt fun p hp => hs2 p (hs1 p hp), .head _, fun p hp => .tail _ (hs2 p (hs1 p hp))⟩
/-- model['tokens'] = a new list -/
theorem tr_msetTok {a d : Addr} {x y : Str} {od : Obj} {ts' : List Tk} {key : Value} (I : Inv prog w D (OnX n X)) (hk : k < D.cm) (hkey : IsS (Str.ofString "tokens") key) (ha : a ∉ X) (has : (a == sysModules) = false) (hd : d ∉ X) (hds : (d == sysModules) = false) (hda : d ≠ a)
    (hdm : (d, od) ∈ n) (hdt : IsTok prog w x y od) (ham : (a, listOf (refsOf ts').toArray 0) ∈ n) (hts : ts'.Perm (⟨d, x, y⟩ :: (D.m k).ts)) :
    Tr prog w A g L m n (setItem (.ref (D.m k).md) key (.ref a)) (fun _ n' => Inv prog w (D.setM k { D.m k with mt := a, ts := ts' }) n') := by
  obtain ⟨o, hm, t1, t2, t3, t4, hdo⟩ := inv_md I hk
  have hmX := (onx_mem.mp hm).2
  have hm := (onx_mem.mp hm).1
  refine tr_setDict hm hdo hkey (by simp) fun o' ho' => ?_
  exact inv_mnew (t := ⟨d, x, y⟩) (ts' := ts') (a := a) I hk (onx_new hd hds) (onx_new ha has) hda (mem_put hdm (fun e => hd (by rw [show d = _ from e]; exact hmX))) hdt (mem_put ham (fun e => ha (by rw [show a = _ from e]; exact hmX))) ⟨0, rfl⟩ (put_self _ _ _) ⟨t1, t2, t3, t4, ho'⟩ hts fun p hp hne => mem_put (onx_mem.mp hp).1 hne
end
section
variable {prog : Program} {w : World} {D : DD} {n : Led} {k : Nat} {b pl : Nat} {dv kv : Value}
def ins (ts : List Tk) (t : Tk) : List Tk := ts.dropLast ++ [t] ++ ts.getLast?.toList
theorem ins_perm (ts : List Tk) (t : Tk) : (ins ts t).Perm (t :: ts) := by
  unfold ins
  rcases List.eq_nil_or_concat ts with h0 | ⟨r, u, h0⟩
  · rw [h0]; simp
  · rw [h0]; simp
theorem ins_tyx (ts us : List Tk) (t u : Tk) (h : ts.map tyx = us.map tyx) (e : tyx t = tyx u) : (ins ts t).map tyx = (ins us u).map tyx := by
  unfold ins
  have h1 : (ts.dropLast).map tyx = us.dropLast.map tyx := by rw [List.map_dropLast, List.map_dropLast, h]
  have h2 : ts.getLast?.toList.map tyx = us.getLast?.toList.map tyx := by
    have := congrArg List.getLast? h
    rw [List.getLast?_map, List.getLast?_map] at this
    cases h3 : ts.getLast? <;> cases h4 : us.getLast? <;> simp_all
  simp only [List.map_append, h1, h2, List.map_cons, List.map_nil, e]
theorem s_deed5 (hd : IsI 5 dv) (hk : IsI k kv) (hkc : k < D.cs) (G : Good D b pl) (hb : b ≤ 400) (hpl : pl ≤ 80000) (I : Inv prog w D n) :
    FSpec prog w (.ref 179) [.ref D.B, dv, kv, .ref D.SL, .ref D.ML] 20 n (fun h => Scr h D.script) (Done prog w D b pl) := by
  refine' fspec_of_body (binds := [(Str.ofString "box", .ref D.B), (Str.ofString "deed", dv), (Str.ofString "k", kv), (Str.ofString "states", .ref D.SL), (Str.ofString "models", .ref D.ML)]) ?ho ?hcd ?hbind ?hloc ?hb ?c2 ?c3 ?c4 ?c5
  walk_at "enter"
  rintro A g L hR hB hS _
  have hkm : k < D.cm := by rw [G.cm]; exact hkc
  have c6 := G.c6
  have h6s : D.cs ≤ 1000 := by omega
  have h6 : D.cm ≤ 1000 := by rw [G.cm]; omega
  have N := G.na k hkc
  have hE := endOk_texts _ N.mem
  have hlen : (D.m k).src.length ≤ 9 := hE.1
  refine sx_letPu (P := (· = .ref (D.s k).x)) (pu_state I.kno hkc h6s (pu_local rfl rfl) (pu_local rfl hk)) fun v e => ?_
  subst e
  refine sx_letPu (P := (· = .ref (D.m k).md)) (pu_model I.kno hkm h6 (pu_local rfl rfl) (pu_local rfl hk)) fun v e => ?_
  subst e
  refine sx_letPu (P := IsS (D.m k).src) (pu_mkey I.kno hkm (fun t1 t2 t3 t4 => ⟨_, rfl, ⟨_, rfl⟩⟩) (pu_local rfl rfl) pu_str) fun sv hsv => ?_
  refine sx_letPu (P := (· = .ref (D.m k).mt)) (pu_mkey I.kno hkm (fun t1 t2 t3 t4 => ⟨_, rfl, rfl⟩) (pu_local rfl rfl) pu_str) fun v e => ?_
  subst e
  refine sx_let (tr_drawI (kk := 11) (size := (D.m k).src.length + 3) hB (hR.le (j := 12) (by decide)) hS G (by omega) I (by omega) (pu_local rfl rfl) (pu_add (pu_lenStr hB (by omega) (pu_local rfl hsv)) pu_int)) fun pv n1 q => ?_
  obtain ⟨p, hp, p0, p1, hdr⟩ := q
  obtain ⟨mx, mx0, mx1, I1⟩ := inv_drawn I hdr
  have G1 := G.draw mx0 mx1
  refine sx_skip (pu_testCmp (pu_local rfl hd) pu_int fun a c ha hc => (c_eqI ha hc).to (by decide)) ?_
  refine sx_skip (pu_testCmp (pu_local rfl hd) pu_int fun a c ha hc => (c_eqI ha hc).to (by decide)) ?_
  refine sx_skip (pu_testCmp (pu_local rfl hd) pu_int fun a c ha hc => (c_eqI ha hc).to (by decide)) ?_
  refine sx_skip (pu_testCmp (pu_local rfl hd) pu_int fun a c ha hc => (c_eqI ha hc).to (by decide)) ?_
  refine sx_skip (pu_testCmp (pu_local rfl hd) pu_int fun a c ha hc => (c_eqI ha hc).to (by decide)) ?_
  refine sx_ifT (pu_testCmp (pu_local rfl hd) pu_int fun a c ha hc => (c_eqI ha hc).to (by decide)) ?_
  have htl : (D.s k).ts.length = (D.m k).ts.length := by have := congrArg List.length N.ts; simpa using this
  have h1 := N.tl
  obtain ⟨X, hX⟩ : ∃ X, X = n1.map (·.1) := ⟨_, rfl⟩
  have I1 : Inv prog w (D.draw mx) (OnX n1 X) := by rw [hX, onx_all]; exact I1
  refine sx_let (P := fun v n' => ∃ d x od mx2, v = .ref d ∧ d ∉ X ∧ (d == sysModules) = false ∧ IsTok prog w x (Str.ofString "t") od ∧ (d, od) ∈ n' ∧ Inv prog w ((D.draw mx).draw mx2) (OnX n' X) ∧ Good ((D.draw mx).draw mx2) b (pl + 2)) (tr_Dict hB (h := fun d o hn ho => ?_)) fun v n2 q => ?_
  · have hdX : d ∉ X := by rw [hX]; exact hn.1
    obtain ⟨oB, hmB, _⟩ := inv_box I1
    have hBX : D.B ∈ X := (onx_mem.mp hmB).2
    have hmB : (D.B, oB) ∈ n1 := (onx_mem.mp hmB).1
    have hdB : d ≠ D.B := fun e => hdX (e ▸ hBX)
    refine tr_pairs (Pv := fun v n' => ∃ x ∈ [Str.ofString "paragraph", Str.ofString "y"], IsS x v ∧ ∃ mix, 0 ≤ mix ∧ mix < 2147483647 ∧ Inv prog w ((D.draw mx).draw mix) (OnX n' X) ∧ D.B ∈ X ∧ ∀ p ∈ (d, o) :: n1, p.1 ≠ D.B → p ∈ n') pu_str
      (tr_pickX (D := D.draw mx) (kk := 9) hB (hR.le (j := 12) (by decide)) hS G1 (by omega) (I1.mono (onx_sub fun p hp => .tail _ hp)) (pu_local rfl rfl) (rows_L hB (.tail _ hmB) (Pu.mono (pu_args pu_str (pu_args pu_str pu_args0)) fun vs q => ?_))) fun kv1 v1 n3 hk1 q => ?_
    · obtain ⟨v1, r1, rfl, q1, v2, r2, rfl, q2, rfl⟩ := q
      refine ⟨by simp, by simp, fun i v hv => ?_⟩
      have hm := List.mem_of_getElem? hv
      simp only [List.mem_cons, List.not_mem_nil, or_false] at hm
      rcases hm with rfl | rfl
      · exact ⟨_, .head _, q1⟩
      · exact ⟨_, .tail _ (.head _), q2⟩
    obtain ⟨x, hx, hxv, mx2, mx20, mx21, I2, _, hk2⟩ := q
    have G2 := G1.draw mx20 mx21
    refine tr_pairs (Pv := fun v n' => n' = n3 ∧ IsS (Str.ofString "t") v) pu_str pu_str fun kv2 v2 n4 hk2' q => ?_
    obtain ⟨rfl, hyv⟩ := q
    obtain ⟨u1, rfl⟩ := hk1
    obtain ⟨u2, rfl⟩ := hk2'
    obtain ⟨u3, rfl⟩ := hxv
    obtain ⟨u4, rfl⟩ := hyv
    have hd4 : (d, o) ∈ n4 := hk2 _ (.head _) hdB
    refine tr_pairs0 ⟨hd4, rfl, (show [sType, sText].Nodup from by decide +kernel), fun o' ho' => ⟨d, x, o', mx2, rfl, hdX, hn.2, ⟨u3, u4, ho'⟩, put_self _ _ _, I2.mono fun p hp => ?_, G2⟩⟩
    refine onx_mem.mpr ⟨mem_put (onx_mem.mp hp).1 ?_, (onx_mem.mp hp).2⟩
    exact fun e => hdX (e ▸ (onx_mem.mp hp).2)
  obtain ⟨d, x, od, mx2, rfl, hdX, hds, htok, hdm, I4, G4⟩ := q
  obtain ⟨X', hXX, hXN, eX⟩ := onx_trim n2 X
  rw [← eX] at I4
  have hdX' : d ∉ X' := fun h => hdX (hXX _ h)
  refine sx_expr (P := fun v n' => ∃ c X2, d ∉ X2 ∧ Inv prog w (((D.draw mx).draw mx2).setS k { D.s k with ts := ins (D.s k).ts ⟨c, x, Str.ofString "t"⟩ }) (OnX n' X2) ∧ (d, od) ∈ n') (tr_Method (pu_local (P := (· = .ref (D.s k).x)) rfl rfl) fun ov q => ?_) fun u n5 q => ?_
  · subst q
    refine ⟨_, _, pu_meth hB (I4.full.kno.imp fun h i => rd_bs (D := (D.draw mx).draw mx2) i hkc) (m_prepend_token w) (fn_prepend_token w) (by intros; rfl), tr_callWith (Pargs := fun us n' => ∃ c oc, us = [.ref c] ∧ New n2 c ∧ IsTok prog w x (Str.ofString "t") oc ∧ n' = (c, oc) :: n2) hB (kp_prepend_token w)
      (tr_args (P := fun v n' => ∃ c oc, v = .ref c ∧ New n2 c ∧ IsTok prog w x (Str.ofString "t") oc ∧ n' = (c, oc) :: n2) (tr_Call (pu_B hB (b_dict w) rfl (by decide) rfl) (tr_callWithB (fun a e => by cases e) (pu_args (pu_local (P := (· = .ref d)) rfl rfl) pu_args0) fun vs n5 q => ?_)) fun v n5 q => ?_) fun us n5 q => ?_⟩
    · obtain ⟨rfl, v, r, rfl, rfl, rfl⟩ := q
      obtain ⟨t1, t2, hd'⟩ := htok
      exact tr_dictCopy hB hds (fun h _ q => Heap.dictOf_iff.mpr ⟨od, q _ hdm, hd'⟩) (by simp) fun c oc hc ho => ⟨c, oc, rfl, hc, ⟨t1, t2, ho⟩, rfl⟩
    · obtain ⟨c, oc, rfl, hc, ho, rfl⟩ := q
      exact Tr.mono pu_args0 fun r n' q => by obtain ⟨rfl, rfl⟩ := q; exact ⟨c, oc, rfl, hc, ho, rfl⟩
    · obtain ⟨c, oc, rfl, hc, ho, rfl⟩ := q
      have hcd : c ≠ d := fun e => hc.1 (by rw [e]; exact List.mem_map_of_mem (f := Prod.fst) hdm)
      have hcX : c ∉ X' := fun hm => hc.1 (hXN _ hm)
      refine Tr.mono (tr_preX (D := (D.draw mx).draw mx2) (ts' := ins (D.s k).ts ⟨c, x, Str.ofString "t"⟩) hB (hR.le (by decide)) (I4.mono (onx_sub fun p hp => .tail _ hp)) hkc (by show (D.s k).ts.length ≤ 900; omega) hcX hc.2 (.head _) ho rfl) fun v n' q => ?_
      obtain ⟨q1, q2, q3⟩ := q
      exact ⟨c, c :: X', fun h => (List.mem_cons.mp h).elim (fun h => hcd h.symm) hdX', q1, q3 _ (.tail _ hdm) fun e => hdX' (by rw [show d = _ from e]; exact q2)⟩
  obtain ⟨c, X2, hdX2, I5, hdm5⟩ := q
  obtain ⟨X3, hXX3, hXN3, eX3⟩ := onx_trim n5 X2
  rw [← eX3] at I5
  have hdX3 : d ∉ X3 := fun h => hdX2 (hXX3 _ h)
  have hmt : ∀ {n'}, (∀ p ∈ n5, p ∈ n') → Kno g n' (fun h => h.IsList (D.m k).mt (refsOf (D.m k).ts).toArray) := fun hs => (I5.full.mono hs).kno.imp fun h i => rd_mt (D := ((D.draw mx).draw mx2).setS k { D.s k with ts := ins (D.s k).ts ⟨c, x, Str.ofString "t"⟩ }) i hkm
  have hmz : (refsOf (D.m k).ts).length ≤ 500 := by simp; omega
  refine sx_setitem (P := fun v n1 => ∃ a, v = .ref a ∧ New n5 a ∧ (a, listOf (refsOf (ins (D.m k).ts ⟨d, x, Str.ofString "t"⟩)).toArray 0) ∈ n1 ∧ ∀ p ∈ n5, p ∈ n1)
    (P2 := fun v ov n1 => (∃ a, v = .ref a ∧ New n5 a ∧ (a, listOf (refsOf (ins (D.m k).ts ⟨d, x, Str.ofString "t"⟩)).toArray 0) ∈ n1 ∧ ∀ p ∈ n5, p ∈ n1) ∧ ov = .ref (D.m k).md) (P3 := fun _ _ _ => True)
    (P4 := fun v ov iv n1 => (∃ a, v = .ref a ∧ New n5 a ∧ (a, listOf (refsOf (ins (D.m k).ts ⟨d, x, Str.ofString "t"⟩)).toArray 0) ∈ n1 ∧ ∀ p ∈ n5, p ∈ n1) ∧ ov = .ref (D.m k).md ∧ IsS (Str.ofString "tokens") iv) ?_ (fun v n1 q => ?_) (fun v ov n2 q => ?_) fun v ov iv n3 q => ?_
  · refine Tr.mono (tr_addMk (xs := (refsOf (D.m k).ts).dropLast ++ [Value.ref d]) (ys := (refsOf (D.m k).ts).getLast?.toList) hB ?_ (tr_addMk hB ?_ (Tr.mono (tr_sliceN hB (items := (refsOf (D.m k).ts).toArray) (hmt fun p h => h) (by rw [sizeLine_eq]; simp; omega) (pu_local (P := (· = .ref (D.m k).mt)) rfl rfl) pu_partNone (pu_partSome (pu_neg pu_int))) fun v n' q => ?_)
      fun n6 hs6 => tr_List hB (Pa := fun vs n' => n' = n6 ∧ vs = [.ref d]) (Tr.mono (pu_args (pu_local (P := (· = .ref d)) rfl rfl) pu_args0) fun vs n' q => ?_) fun vs n' q => ?_)
      fun n6 hs6 => Tr.mono (tr_sliceN hB (items := (refsOf (D.m k).ts).toArray) (hmt hs6) (by rw [sizeLine_eq]; simp; omega) (pu_local (P := (· = .ref (D.m k).mt)) rfl rfl) (pu_partSome (pu_neg pu_int)) pu_partNone) fun v n' q => ?_) fun v n' q => ?_
    · have := toList_le (refsOf (D.m k).ts).getLast?
      rw [List.length_append, List.length_dropLast, List.length_singleton]; omega
    · simp at hmz ⊢; omega
    · obtain ⟨a, rfl, ha, rfl⟩ := q
      rw [pick_init]
      exact ⟨a, rfl, ha, .head _, fun p hp => .tail _ hp⟩
    · obtain ⟨rfl, v, r, rfl, rfl, rfl⟩ := q; exact ⟨rfl, rfl⟩
    · obtain ⟨rfl, rfl⟩ := q
      exact ⟨by simp, fun a ha => ⟨a, rfl, ha, .head _, fun p hp => .tail _ hp⟩⟩
    · obtain ⟨a, rfl, ha, rfl⟩ := q
      rw [pick_tail]
      exact ⟨a, rfl, ha, .head _, fun p hp => .tail _ hp⟩
    · obtain ⟨a, rfl, ha, hm, hs⟩ := q
      refine ⟨a, rfl, ha, ?_, hs⟩
      have e : refsOf (ins (D.m k).ts ⟨d, x, Str.ofString "t"⟩) = (refsOf (D.m k).ts).dropLast ++ [Value.ref d] ++ (refsOf (D.m k).ts).getLast?.toList := by
        unfold ins
        rcases List.eq_nil_or_concat (D.m k).ts with h0 | ⟨r, u, h0⟩
        · rw [h0]; rfl
        · rw [h0]; simp
      rw [e]; exact hm
  · exact Tr.mono (pu_local (P := (· = .ref (D.m k).md)) rfl rfl) fun u n' e => by obtain ⟨rfl, rfl⟩ := e; exact ⟨q, rfl⟩
  · obtain ⟨q, rfl⟩ := q
    exact Tr.mono pu_str fun u n' e => by obtain ⟨rfl, e⟩ := e; exact ⟨q, rfl, e⟩
  obtain ⟨⟨a, rfl, ha, hm, hs⟩, rfl, hkey⟩ := q
  have haX : a ∉ X3 := fun h => ha.1 (hXN3 _ h)
  have hda : d ≠ a := fun e => ha.1 (by rw [← e]; exact List.mem_map_of_mem (f := Prod.fst) hdm5)
  refine Tr.mono (tr_msetTok (D := ((D.draw mx).draw mx2).setS k { D.s k with ts := ins (D.s k).ts ⟨c, x, Str.ofString "t"⟩ }) (I5.mono (onx_sub hs)) hkm hkey haX ha.2 hdX3 hds hda (hs _ hdm5) htok hm (ins_perm _ _)) fun _ n6 I6 => sx_retPu pu_bool fun v e => ?_
  refine ⟨e, _, I6, ?_, ⟨rfl, rfl, rfl, rfl, Nat.le_refl _⟩⟩
  refine Good.more (Good.upd G4 hkc ?_ ?_ ?_ ?_ ?_ ?_ ?_ (Nat.le_succ b)) (Nat.le_refl _) (by omega)
  any_goals rfl
  refine { src := N.src, mem := N.mem, sl := N.sl, ml := N.ml, cur := N.cur, c0 := N.c0, c1 := N.c1, ts := ins_tyx _ _ _ _ N.ts rfl, tl := ?_, tx := fun t ht => ?_, lz := N.lz, lk := N.lk }
  · show (ins (D.m k).ts _).length ≤ b + 1
    rw [(ins_perm _ _).length_eq, List.length_cons]; omega
  · rcases List.mem_cons.mp ((ins_perm _ _).mem_iff.mp ht) with rfl | ht
    · show (Str.ofString "t").length ≤ _
      have : (Str.ofString "t").length = 1 := by decide +kernel
      omega
    · exact Nat.le_trans (N.tx t ht) (by omega)
end
end Mine
namespace Mine
theorem fill_frag18 : (PySem.Challenge.rw_bq5015_01, hd.heap_39) = (PySem.Challenge.rw_bq5015_01, hd.heap_39) := by k_fill; rfl
local macro_rules | `(tactic| walk_at "enter") => `(tactic| ((case ho => k_is); (case hcd => k_is); (case hbind => exact fun s _ => BindsTo.of_eq rfl); (case hloc => exact locs rfl); (case c2 => exact rfl); (case c3 => exact rfl); (case c4 => exact rfl); (case c5 => decide)))




section
variable {prog : Program} {w : World} {D : DD} {n n' : Led} {g : Heap} {k : Nat} {b pl : Nat} {A : Around} {s : Shared} {L : Addr} {m : Str → Option Value} {X : List Addr} {env : Env} {pos p : Pos} {o : Expr} {p1 p2 : Option Expr}
theorem lastV_snoc (r : List Tk) (t : Tk) : lastV (refsOf (r ++ [t])) = .ref t.a := by simp [lastV]
/-- add_paragraph to a paragraph -/
theorem tr_addJoin {r : List Tk} {t : Tk} {y : Str} {tv : Value} (hB : Bas w g) (hR : Room A 4) (I : Inv prog w D n) (hk : k < D.cs) (hlen : (D.s k).ts.length ≤ 900) (hts : (D.s k).ts = r ++ [t]) (hty : t.ty = sPar) (htv : IsS y tv) (hz : t.tx.length + y.length ≤ 100000) :
    Tr prog w A g L m n (call (.ref 100) [.ref (D.s k).x, tv]) (fun v n' => Inv prog w (D.setS k { D.s k with ts := r ++ [{ t with tx := t.tx ++ y }] }) n') := by
  obtain ⟨cc, hT⟩ := inv_toks I hk
  obtain ⟨mi, hne⟩ := inv_inst I hk
  obtain ⟨od, md, hbs⟩ := inv_bs I hk
  obtain ⟨ot, mt, htk, hs⟩ := inv_tok I hk hts
  obtain ⟨σ, R, S⟩ := id I
  have rt := (R (.s k) hk).2.2.2.2.1 t (by rw [hts]; simp)
  have hxt : (D.s k).x ≠ t.a := Rep.ne (R (.s k) hk).1 rt (by simp)
  have hdt : (D.s k).dx ≠ t.a := Rep.ne (R (.s k) hk).2.1 rt (by simp)
  have hTt : (D.s k).f.T ≠ t.a := Rep.ne (R (.s k) hk).2.2.1 rt (by simp)
  refine Tr.mono (tr_call (s_add_join (f := (D.s k).f) (vs := refsOf (D.s k).ts) (t := t.a) (ot := ot) (tx := t.tx) htv (by rw [sizeLine_eq]; simp; omega) (by rw [hts]; exact lastV_snoc r t) (by rw [← hty]; exact htk) hs (by rw [sizeLine_eq]; omega)) hR hB (fun q hq => by
    have : q = (t.a, ot) := by simpa using hq
    subst this; exact mt) (fun h _ q => ⟨⟨(D.s k).dx, od, q _ (mem_drop mi (by simpa using hxt)), q _ (mem_drop md (by simpa using hdt)), hbs⟩, ⟨_, q _ (mem_drop hT (by simpa using hTt)), rfl, _, rfl⟩⟩)) fun v N' q => ?_
  obtain ⟨n', ⟨_, o', hb', rfl⟩, rfl, _⟩ := q
  exact inv_tok_up I hk hts (.head _) (by rw [hty]; exact hb') Kp.call
/-- add_paragraph with a new one -/
theorem tr_addNew {y : Str} {tv : Value} (hB : Bas w g) (hR : Room A 4) (I : Inv prog w D n) (hk : k < D.cs) (hlen : (D.s k).ts.length ≤ 900) (hno : ∀ r t, (D.s k).ts = r ++ [t] → t.ty ≠ sPar) (htv : IsS y tv) :
    Tr prog w A g L m n (call (.ref 100) [.ref (D.s k).x, tv]) (fun v n' => ∃ c, Inv prog w (D.setS k { D.s k with ts := (D.s k).ts ++ [⟨c, sPar, y⟩] }) n') := by
  obtain ⟨cc, hT⟩ := inv_toks I hk
  obtain ⟨mi, hne⟩ := inv_inst I hk
  obtain ⟨od, md, hbs⟩ := inv_bs I hk
  obtain ⟨σ, R, S⟩ := id I
  have hxT : (D.s k).x ≠ (D.s k).f.T := Rep.ne (R (.s k) hk).1 (R (.s k) hk).2.2.1 (by simp)
  have hdT : (D.s k).dx ≠ (D.s k).f.T := Rep.ne (R (.s k) hk).2.1 (R (.s k) hk).2.2.1 (by simp)
  refine Tr.mono (tr_call (s_add_new (f := (D.s k).f) (vs := refsOf (D.s k).ts) (k := cc) htv (by simp; omega) ?_) hR hB (fun q hq => by
    have : q = ((D.s k).f.T, listOf (refsOf (D.s k).ts).toArray cc) := by simpa using hq
    subst this; exact hT) ?_) fun v N' q => ?_
  · rcases List.eq_nil_or_concat (D.s k).ts with h0 | ⟨r, t, h0⟩
    · left; rw [h0]; rfl
    · right
      rw [List.concat_eq_append] at h0
      obtain ⟨ot, mt, htk, hs⟩ := inv_tok I hk h0
      exact ⟨t.a, by rw [h0]; exact lastV_snoc r t, hs⟩
  · refine Kno.and (fun h _ q => ⟨(D.s k).dx, od, q _ (mem_drop mi (by simpa using hxT)), q _ (mem_drop md (by simpa using hdT)), hbs⟩) fun h _ q u hu => ?_
    rcases List.eq_nil_or_concat (D.s k).ts with h0 | ⟨r, t, h0⟩
    · rw [h0] at hu; cases hu
    · rw [List.concat_eq_append] at h0
      obtain ⟨ot, mt, htk, hs⟩ := inv_tok I hk h0
      have rt := (R (.s k) hk).2.2.2.2.1 t (by rw [h0]; simp)
      have hTt : t.a ≠ (D.s k).f.T := Rep.ne rt (R (.s k) hk).2.2.1 (by simp)
      rw [h0, lastV_snoc] at hu
      cases hu
      exact ⟨t.ty, t.tx, ⟨ot, q _ (mem_drop mt (by simpa using hTt)), htk⟩, hno r t h0⟩
  · obtain ⟨n', ⟨_, d, o', hd, ho', rfl, hdT'⟩, rfl, hfr⟩ := q
    have hfd := (hfr (d, o') (.tail _ (.head _))).resolve_left (by simpa using hdT')
    refine ⟨d, inv_push (t := ⟨d, sPar, y⟩) (ts' := (D.s k).ts ++ [⟨d, sPar, y⟩]) (o' := listOf (refsOf (D.s k).ts ++ [Value.ref d]).toArray (cc + 1)) I hk ⟨hfd, hd.2⟩ (List.mem_append_left _ (.tail _ (.head _))) ho' (List.mem_append_left _ (.head _)) (refs_push (D.s k).ts ⟨d, sPar, y⟩ (cc + 1)) (List.perm_append_comm) fun p hp hne => List.mem_append_right _ (mem_drop hp (by simpa using hne))⟩
/-- append_paragraph to a paragraph -/
theorem tr_appJoin {r : List Tk} {t : Tk} (hB : Bas w g) (hR : Room A 5) (I : Inv prog w D n) (hk : k < D.cs) (hlen : (D.s k).ts.length ≤ 900) (hts : (D.s k).ts = r ++ [t]) (hty : t.ty = sPar) (hz : t.tx.length ≤ 100000) (hsl : (D.s k).f.src.length ≤ 1000) (hsl2 : (Txt.slice (D.s k).f.src (some (D.s k).f.cur) (some (lend (D.s k).f.src (D.s k).f.cur))).length ≤ 1000) :
    Tr prog w A g L m n (call (.ref 107) [.ref (D.s k).x]) (fun v n' => IsI (lend (D.s k).f.src (D.s k).f.cur) v ∧ Inv prog w (D.setS k { D.s k with ts := r ++ [{ t with tx := t.tx ++ Txt.slice (D.s k).f.src (some (D.s k).f.cur) (some (lend (D.s k).f.src (D.s k).f.cur)) }] }) n') := by
  obtain ⟨cc, hT⟩ := inv_toks I hk
  obtain ⟨mi, hne⟩ := inv_inst I hk
  obtain ⟨od, md, hbs⟩ := inv_bs I hk
  obtain ⟨ot, mt, htk, hs⟩ := inv_tok I hk hts
  obtain ⟨σ, R, S⟩ := id I
  have rt := (R (.s k) hk).2.2.2.2.1 t (by rw [hts]; simp)
  have hxt : (D.s k).x ≠ t.a := Rep.ne (R (.s k) hk).1 rt (by simp)
  have hdt : (D.s k).dx ≠ t.a := Rep.ne (R (.s k) hk).2.1 rt (by simp)
  have hTt : (D.s k).f.T ≠ t.a := Rep.ne (R (.s k) hk).2.2.1 rt (by simp)
  refine Tr.mono (tr_call (s_app_join (f := (D.s k).f) (vs := refsOf (D.s k).ts) (t := t.a) (ot := ot) (tx := t.tx) (by rw [sizeLine_eq]; simp; omega) (by rw [hts]; exact lastV_snoc r t) (by rw [← hty]; exact htk) hs hsl (by rw [sizeLine_eq]; omega) hsl2) hR hB (fun q hq => by
    have : q = (t.a, ot) := by simpa using hq
    subst this; exact mt) (fun h _ q => ⟨⟨(D.s k).dx, od, q _ (mem_drop mi (by simpa using hxt)), q _ (mem_drop md (by simpa using hdt)), hbs⟩, ⟨_, q _ (mem_drop hT (by simpa using hTt)), rfl, _, rfl⟩⟩)) fun v N' q => ?_
  obtain ⟨n', ⟨hv, o', hb', rfl⟩, rfl, _⟩ := q
  exact ⟨hv, inv_tok_up I hk hts (.head _) (by rw [hty]; exact hb') Kp.call⟩
/-- append_paragraph else -/
theorem tr_appNone (hB : Bas w g) (hR : Room A 5) (I : Inv prog w D n) (hk : k < D.cs) (hlen : (D.s k).ts.length ≤ 900) (hno : ∀ r t, (D.s k).ts = r ++ [t] → t.ty ≠ sPar) :
    Pu prog w A g L m n (call (.ref 107) [.ref (D.s k).x]) (· = .none) := by
  refine pu_call (s_app_none (f := (D.s k).f) (vs := refsOf (D.s k).ts) (by simp; omega) ?_) hR hB (Kno.and (Kno.and (I.kno.imp fun h i => rd_bs i hk) (I.kno.imp fun h i => rd_toks i hk)) ?_) fun v n' q => q
  · rcases List.eq_nil_or_concat (D.s k).ts with h0 | ⟨r, t, h0⟩
    · left; rw [h0]; rfl
    · right
      rw [List.concat_eq_append] at h0
      obtain ⟨ot, mt, htk, hs⟩ := inv_tok I hk h0
      exact ⟨t.a, by rw [h0]; exact lastV_snoc r t, hs⟩
  · refine I.kno.imp fun h i u hu => ?_
    rcases List.eq_nil_or_concat (D.s k).ts with h0 | ⟨r, t, h0⟩
    · rw [h0] at hu; cases hu
    · rw [List.concat_eq_append] at h0
      rw [h0, lastV_snoc] at hu
      cases hu
      exact ⟨t.ty, t.tx, (rd_tok i hk (by rw [h0]; simp)).1, hno r t h0⟩
/-- last['text'] of a model -/
theorem tr_mtokSet {r : List Tk} {t : Tk} {y : Str} {key v : Value} (I : Inv prog w D n) (hk : k < D.cm) (hts : (D.m k).ts = r ++ [t]) (hkey : IsS sText key) (hv : IsS y v) : Tr prog w A g L m n (setItem (.ref t.a) key v) (fun _ n' => Inv prog w (D.setM k { D.m k with ts := r ++ [{ t with tx := y }] }) n') := by
  obtain ⟨o, hm, ⟨t1, t2, hd⟩, hs⟩ := inv_mtok I hk hts
  obtain ⟨u, rfl⟩ := hv
  exact tr_setDict hm hd hkey (by simp) fun o' ho' => inv_mtok_up I hk hts (put_self _ _ _) ⟨t1, u, ho'⟩ Kp.put
end
end Mine
namespace Mine
theorem fill_frag19 : (PySem.Challenge.rw_bq5015_01, hd.heap_39) = (PySem.Challenge.rw_bq5015_01, hd.heap_39) := by k_fill; rfl
local macro_rules | `(tactic| walk_at "enter") => `(tactic| ((case ho => k_is); (case hcd => k_is); (case hbind => exact fun s _ => BindsTo.of_eq rfl); (case hloc => exact locs rfl); (case c2 => exact rfl); (case c3 => exact rfl); (case c4 => exact rfl); (case c5 => decide)))





theorem last_pair {N : SN} {M : MN} {b : Nat} (h : NodeA N M b) : (N.ts = [] ∧ M.ts = []) ∨ ∃ r t r' t', N.ts = r ++ [t] ∧ M.ts = r' ++ [t'] ∧ r.map tyx = r'.map tyx ∧ t.ty = t'.ty ∧ t.tx = t'.tx := by
  have hl : N.ts.length = M.ts.length := by have := congrArg List.length h.ts; simpa using this
  rcases List.eq_nil_or_concat N.ts with h0 | ⟨r, t, h0⟩
  · left
    exact ⟨h0, by rw [← List.length_eq_zero_iff, ← hl, h0]; rfl⟩
  · right
    have hm : M.ts ≠ [] := fun e => by rw [e, h0] at hl; simp at hl
    obtain ⟨r', t', h1⟩ := (List.eq_nil_or_concat M.ts).resolve_left hm
    rw [List.concat_eq_append] at h0 h1
    have e := h.ts
    rw [h0, h1, List.map_append, List.map_append] at e
    obtain ⟨e1, e2⟩ := List.append_inj' e rfl
    have e2 : tyx t = tyx t' := by simpa using e2
    obtain ⟨e3, e4⟩ := Prod.mk.inj e2
    exact ⟨r, t, r', t', h0, h1, e1, e3, e4⟩

theorem str_len_append (x y : Str) : (x ++ y).length = x.length + y.length := by
  show (x.cps ++ y.cps).size = x.cps.size + y.cps.size
  exact Array.size_append
section
variable {prog : Program} {w : World} {n : Led} {g : Heap} {A : Around} {L : Addr} {m : Str → Option Value} {env : Env} {pos : Pos} {value slice : Expr}
/-- token['type'], token['text'] -/
theorem pu_tokKey {a : Addr} {ty tx x z : Str} (hK : Kno g n (fun h => ∃ t1 t2, h.DictOf (strKind prog w) a [(sType, .str ty t1), (sText, .str tx t2)])) (hx : (x = sType ∧ z = ty) ∨ (x = sText ∧ z = tx))
    (hv : Pu prog w A g L m n (eval value env) (· = .ref a)) (hi : Pu prog w A g L m n (eval slice env) (IsS x))
    (hs : ∀ u, subscripted slice false (.ref a) (.str x u) = operate [.ref a, .str x u] (getItem (.ref a) (.str x u)) := by intro _; with_unfolding_all rfl) :
    Pu prog w A g L m n (eval (.Subscript value slice pos) env) (IsS z) :=
  pu_Subscript hv hi fun o i e e' => by
    obtain ⟨u, rfl⟩ := e'; subst e
    exact pu_of fun s _ _ F N kk => by
      obtain ⟨t1, t2, hD⟩ := hK.here F N
      rcases hx with ⟨rfl, rfl⟩ | ⟨rfl, rfl⟩
      · exact tail_any hD.typeIs slot_dict_getitem.lookup (wpAny_getItem_of (strKind_is prog w _ u) hD.mapOf (v := .str z t1) rfl (kk _ _ ⟨_, rfl⟩)) (hs u)
      · exact tail_any hD.typeIs slot_dict_getitem.lookup (wpAny_getItem_of (strKind_is prog w _ u) hD.mapOf (v := .str z t2) rfl (kk _ _ ⟨_, rfl⟩)) (hs u)
end
section
variable {prog : Program} {w : World} {D : DD} {n : Led} {k : Nat} {b pl : Nat} {dv kv : Value}
theorem s_deed6 (hd : IsI 6 dv) (hk : IsI k kv) (hkc : k < D.cs) (G : Good D b pl) (hb : b ≤ 400) (hpl : pl ≤ 80000) (I : Inv prog w D n) :
    FSpec prog w (.ref 179) [.ref D.B, dv, kv, .ref D.SL, .ref D.ML] 20 n (fun h => Scr h D.script) (Done prog w D b pl) := by
  refine' fspec_of_body (binds := [(Str.ofString "box", .ref D.B), (Str.ofString "deed", dv), (Str.ofString "k", kv), (Str.ofString "states", .ref D.SL), (Str.ofString "models", .ref D.ML)]) ?ho ?hcd ?hbind ?hloc ?hb ?c2 ?c3 ?c4 ?c5
  walk_at "enter"
  rintro A g L hR hB hS _
  have hkm : k < D.cm := by rw [G.cm]; exact hkc
  have c6 := G.c6
  have h6s : D.cs ≤ 1000 := by omega
  have h6 : D.cm ≤ 1000 := by rw [G.cm]; omega
  have N := G.na k hkc
  have hE := endOk_texts _ N.mem
  have hlen : (D.m k).src.length ≤ 9 := hE.1
  refine sx_letPu (P := (· = .ref (D.s k).x)) (pu_state I.kno hkc h6s (pu_local rfl rfl) (pu_local rfl hk)) fun v e => ?_
  subst e
  refine sx_letPu (P := (· = .ref (D.m k).md)) (pu_model I.kno hkm h6 (pu_local rfl rfl) (pu_local rfl hk)) fun v e => ?_
  subst e
  refine sx_letPu (P := IsS (D.m k).src) (pu_mkey I.kno hkm (fun t1 t2 t3 t4 => ⟨_, rfl, ⟨_, rfl⟩⟩) (pu_local rfl rfl) pu_str) fun sv hsv => ?_
  refine sx_letPu (P := (· = .ref (D.m k).mt)) (pu_mkey I.kno hkm (fun t1 t2 t3 t4 => ⟨_, rfl, rfl⟩) (pu_local rfl rfl) pu_str) fun v e => ?_
  subst e
  refine sx_let (tr_drawI (kk := 11) (size := (D.m k).src.length + 3) hB (hR.le (j := 12) (by decide)) hS G (by omega) I (by omega) (pu_local rfl rfl) (pu_add (pu_lenStr hB (by omega) (pu_local rfl hsv)) pu_int)) fun pv n1 q => ?_
  obtain ⟨p, hp, p0, p1, hdr⟩ := q
  obtain ⟨mx, mx0, mx1, I1⟩ := inv_drawn I hdr
  have G1 := G.draw mx0 mx1
  refine sx_skip (pu_testCmp (pu_local rfl hd) pu_int fun a c ha hc => (c_eqI ha hc).to (by decide)) ?_
  refine sx_skip (pu_testCmp (pu_local rfl hd) pu_int fun a c ha hc => (c_eqI ha hc).to (by decide)) ?_
  refine sx_skip (pu_testCmp (pu_local rfl hd) pu_int fun a c ha hc => (c_eqI ha hc).to (by decide)) ?_
  refine sx_skip (pu_testCmp (pu_local rfl hd) pu_int fun a c ha hc => (c_eqI ha hc).to (by decide)) ?_
  refine sx_skip (pu_testCmp (pu_local rfl hd) pu_int fun a c ha hc => (c_eqI ha hc).to (by decide)) ?_
  refine sx_skip (pu_testCmp (pu_local rfl hd) pu_int fun a c ha hc => (c_eqI ha hc).to (by decide)) ?_
  refine sx_ifT (pu_testCmp (pu_local rfl hd) pu_int fun a c ha hc => (c_eqI ha hc).to (by decide)) ?_
  have htl : (D.s k).ts.length = (D.m k).ts.length := by have := congrArg List.length N.ts; simpa using this
  have h1 := N.tl
  obtain ⟨items, hil, hi4, hiX⟩ := pieces_list hB
  have I1 : Inv prog w (D.draw mx) (OnX n1 (n1.map (·.1))) := by rw [onx_all]; exact I1
  refine sx_let (tr_pickX (D := D.draw mx) (kk := 9) hB (hR.le (j := 12) (by decide)) hS G1 (by omega) I1 (pu_local rfl rfl) (rows_K hB (g_law_pieces w) hil (by omega) (by omega) hiX)) fun tv n2 q => ?_
  obtain ⟨y, hy, hyv, mx2, mx20, mx21, I2, _, _⟩ := q
  have G2 := G1.draw mx20 mx21
  have I2 : Inv prog w ((D.draw mx).draw mx2) n2 := I2.full
  have hyl : y.length ≤ 5 := by
    have : ∀ z ∈ pieces, z.length ≤ 5 := by decide +kernel
    exact this y hy
  refine sx_letPu (P := (· = lastV (refsOf (D.m k).ts))) (pu_lawLast (kk := 5) hB (hR.le (by decide)) (by simp; omega) (I2.kno.imp fun h i => rd_mt (D := (D.draw mx).draw mx2) i hkm) (pu_local rfl rfl)) fun lv e => ?_
  subst e
  by_cases hpar : ∃ r t r' t', (D.s k).ts = r ++ [t] ∧ (D.m k).ts = r' ++ [t'] ∧ r.map tyx = r'.map tyx ∧ t.ty = t'.ty ∧ t.tx = t'.tx ∧ t'.ty = sPar
  · obtain ⟨r, t, r', t', e1, e2, e3, e4, e5, e6⟩ := hpar
    have htx := N.tx t' (by rw [e2]; simp)
    refine sx_expr (P := fun v n' => Inv prog w (((D.draw mx).draw mx2).setS k { D.s k with ts := r ++ [{ t with tx := t.tx ++ y }] }) n') (tr_Method (pu_local (P := (· = .ref (D.s k).x)) rfl rfl) fun ov q => ?_) fun u n3 I3 => ?_
    · subst q
      refine ⟨_, _, pu_meth hB (I2.kno.imp fun h i => rd_bs (D := (D.draw mx).draw mx2) i hkc) (m_add_paragraph w) (fn_add_paragraph w) (by intros; rfl), tr_callWith hB (kp_add_paragraph w) (pu_args (pu_local rfl hyv) pu_args0) fun vs n3 q => ?_⟩
      obtain ⟨rfl, v, r1, rfl, hv, rfl⟩ := q
      exact tr_addJoin (D := (D.draw mx).draw mx2) hB (hR.le (by decide)) I2 hkc (by show (D.s k).ts.length ≤ 900; omega) e1 (e4.trans e6) hv (by rw [e5]; omega)
    have hm : upd (upd (upd (upd (upd (upd (upd (fun y => List.lookup y [(Str.ofString "box", Value.ref D.B), (Str.ofString "deed", dv), (Str.ofString "k", kv), (Str.ofString "states", .ref D.SL), (Str.ofString "models", .ref D.ML)].reverse) (Str.ofString "state") (.ref (D.s k).x)) (Str.ofString "model") (.ref (D.m k).md)) (Str.ofString "src") sv) (Str.ofString "tokens") (.ref (D.m k).mt)) (Str.ofString "place") pv) (Str.ofString "text") tv) (Str.ofString "last") (lastV (refsOf (D.m k).ts)) (Str.ofString "last") = some (.ref t'.a) := by
      rw [e2, lastV_snoc]; rfl
    have hK : Kno g n3 (fun h => ∃ t1 t2, h.DictOf (strKind prog w) t'.a [(sType, .str t'.ty t1), (sText, .str t'.tx t2)]) := I3.kno.imp fun h i => by
      obtain ⟨⟨o, ho, t1, t2, hd⟩, _⟩ := rd_mtok (D := ((D.draw mx).draw mx2).setS k { D.s k with ts := r ++ [{ t with tx := t.tx ++ y }] }) (t := t') i hkm (by show t' ∈ (D.m k).ts; rw [e2]; simp)
      exact ⟨t1, t2, Heap.dictOf_iff.mpr ⟨o, ho, hd⟩⟩
    refine sx_ifT (pu_andT (pu_testCmp (pu_local (P := (· = .ref t'.a)) hm rfl) pu_none fun a c ha hc => (c_notNone hc).to (by rw [ha]; rfl)) (pu_andT (pu_testCmp (pu_tokKey hK (.inl ⟨rfl, rfl⟩) (pu_local hm rfl) pu_str) pu_str fun a c ha hc => (c_eqS ha hc).to (by rw [e6]; simp)) pu_andE)) ?_
    refine sx_put (pu_cat (by rw [sizeLine_eq]; omega) (pu_tokKey hK (.inr ⟨rfl, rfl⟩) (pu_local hm rfl) pu_str) (pu_local rfl hyv)) (pu_local (P := (· = .ref t'.a)) hm rfl) pu_str fun v iv hv hi => Tr.mono (tr_mtokSet (D := ((D.draw mx).draw mx2).setS k { D.s k with ts := r ++ [{ t with tx := t.tx ++ y }] }) I3 hkm e2 hi hv) fun _ n4 I4 => sx_nil (sx_retPu pu_bool fun v e => ?_)
    refine ⟨e, _, I4, ?_, ⟨rfl, rfl, rfl, rfl, Nat.le_refl _⟩⟩
    refine Good.more (Good.upd G2 hkc ?_ ?_ ?_ ?_ ?_ ?_ ?_ (Nat.le_succ b)) (Nat.le_refl _) (by omega)
    any_goals rfl
    refine { src := N.src, mem := N.mem, sl := N.sl, ml := N.ml, cur := N.cur, c0 := N.c0, c1 := N.c1, ts := ?_, tl := ?_, tx := fun u hu => ?_, lz := N.lz, lk := N.lk }
    · show (r ++ [_]).map tyx = (r' ++ [_]).map tyx
      rw [List.map_append, List.map_append, e3]
      simp [tyx, e4, e5]
    · show (r' ++ [_]).length ≤ b + 1
      rw [e2] at h1; simp at h1 ⊢; omega
    · have hu : u ∈ r' ++ [_] := hu
      rcases List.mem_append.mp hu with hu | hu
      · exact Nat.le_trans (N.tx u (by rw [e2]; exact List.mem_append_left _ hu)) (by omega)
      · simp only [List.mem_singleton] at hu
        subst hu
        show (t'.tx ++ y).length ≤ _
        rw [str_len_append]; omega
  · have hpair := last_pair N
    have hno : ∀ r t, (D.s k).ts = r ++ [t] → t.ty ≠ sPar := fun r t e0 e => by
      rcases hpair with ⟨h, _⟩ | ⟨r1, t1, r', t', e1, e2, e3, e4, e5⟩
      · rw [h] at e0; simp at e0
      · rw [e1] at e0
        obtain ⟨_, e6⟩ := List.append_inj' e0 rfl
        have e6 : t1 = t := by simpa using e6
        exact hpar ⟨r1, t1, r', t', e1, e2, e3, e4, e5, by rw [← e4, e6]; exact e⟩
    refine sx_expr (P := fun v n' => ∃ c, Inv prog w (((D.draw mx).draw mx2).setS k { D.s k with ts := (D.s k).ts ++ [⟨c, sPar, y⟩] }) n') (tr_Method (pu_local (P := (· = .ref (D.s k).x)) rfl rfl) fun ov q => ?_) fun u n3 q => ?_
    · subst q
      refine ⟨_, _, pu_meth hB (I2.kno.imp fun h i => rd_bs (D := (D.draw mx).draw mx2) i hkc) (m_add_paragraph w) (fn_add_paragraph w) (by intros; rfl), tr_callWith hB (kp_add_paragraph w) (pu_args (pu_local rfl hyv) pu_args0) fun vs n3 q => ?_⟩
      obtain ⟨rfl, v, r1, rfl, hv, rfl⟩ := q
      exact tr_addNew (D := (D.draw mx).draw mx2) hB (hR.le (by decide)) I2 hkc (by show (D.s k).ts.length ≤ 900; omega) hno hv
    obtain ⟨c, I3⟩ := q
    refine sx_ifF ?_ ?_
    · rcases hpair with ⟨_, h⟩ | ⟨r1, t1, r', t', e1, e2, e3, e4, e5⟩
      · refine pu_andF (pu_testCmp (pu_local (P := (· = .none)) rfl (by rw [h]; rfl)) pu_none fun a c ha hc => (c_notNone hc).to (by rw [ha]; rfl))
      · have hlv : lastV (refsOf (D.m k).ts) = .ref t'.a := by rw [e2, lastV_snoc]
        have hK : Kno g n3 (fun h => ∃ t1 t2, h.DictOf (strKind prog w) t'.a [(sType, .str t'.ty t1), (sText, .str t'.tx t2)]) := I3.kno.imp fun h i => by
          obtain ⟨⟨o, ho, t1, t2, hd⟩, _⟩ := rd_mtok (D := ((D.draw mx).draw mx2).setS k { D.s k with ts := (D.s k).ts ++ [⟨c, sPar, y⟩] }) (t := t') i hkm (by show t' ∈ (D.m k).ts; rw [e2]; simp)
          exact ⟨t1, t2, Heap.dictOf_iff.mpr ⟨o, ho, hd⟩⟩
        refine pu_andT (pu_testCmp (pu_local (P := (· = .ref t'.a)) rfl hlv) pu_none fun a c ha hc => (c_notNone hc).to (by rw [ha]; rfl)) (pu_andF (pu_testCmp (pu_tokKey hK (.inl ⟨rfl, rfl⟩) (pu_local rfl hlv) pu_str) pu_str fun a c ha hc => (c_eqS ha hc).to ?_))
        have : t'.ty ≠ sPar := fun e => hno r1 t1 e1 (e4.trans e)
        simpa using this
    refine sx_expr (P := fun v n' => ∃ d, Inv prog w ((((D.draw mx).draw mx2).setS k { D.s k with ts := (D.s k).ts ++ [⟨c, sPar, y⟩] }).setM k { D.m k with ts := (D.m k).ts ++ [⟨d, sPar, y⟩] }) n') (tr_Method (pu_local (P := (· = .ref (D.m k).mt)) rfl rfl) fun ov q => ?_) fun u n4 q => sx_nil (sx_retPu pu_bool fun v e => ?_)
    · subst q
      have hTy : Kno g n3 (fun h => ∀ s : Shared, s.heap = h → s.TypeIs (.ref (D.m k).mt) "list") := I3.kno.imp fun h i s e => by
        subst e
        obtain ⟨o, ho, hc, _⟩ := rd_mt (D := ((D.draw mx).draw mx2).setS k { D.s k with ts := (D.s k).ts ++ [⟨c, sPar, y⟩] }) i hkm
        exact ⟨o, ho, hc⟩
      have hdc : Kno g n3 (fun h => ∃ o, h.get? (D.m k).mt = some o ∧ o.dict = none) := I3.kno.imp fun h i => i.cell (fun σ R => (R (.m k) hkm).2.1) fun o ho hh _ => ⟨o, ho, by obtain ⟨c, rfl⟩ := hh; rfl⟩
      refine ⟨_, _, pu_getB (T := "list") hTy PySem.F.plainAttrs_list PySem.F.slot_list_append PySem.F.type_list_append (fun a e => by cases e; exact hdc),
        tr_callWithB (Pargs := fun us n4 => ∃ d od, us = [.ref d] ∧ New n3 d ∧ IsTok prog w sPar y od ∧ (d, od) ∈ n4 ∧ ∀ p ∈ n3, p ∈ n4) (fun a e => by cases e) (tr_args (P := fun v n4 => ∃ d od, v = .ref d ∧ New n3 d ∧ IsTok prog w sPar y od ∧ (d, od) ∈ n4 ∧ ∀ p ∈ n3, p ∈ n4) (tr_Dict hB (h := fun d o hn ho => ?_)) fun v n4 q => ?_) fun us n6 q => ?_⟩
      · refine tr_pairs (Pv := fun v n' => n' = (d, o) :: n3 ∧ IsS sPar v) pu_str pu_str fun kv1 v n5 hk1 q => ?_
        obtain ⟨rfl, u1, rfl⟩ := q
        refine tr_pairs (Pv := fun v n' => n' = (d, o) :: n3 ∧ IsS y v) pu_str (pu_local rfl hyv) fun kv2 v2 n5 hk2 q => ?_
        obtain ⟨rfl, u2, rfl⟩ := q
        obtain ⟨u3, rfl⟩ := hk1
        obtain ⟨u4, rfl⟩ := hk2
        refine tr_pairs0 ⟨.head _, rfl, (show [sType, sText].Nodup from by decide +kernel), fun o' ho' => ⟨d, o', rfl, hn, ⟨u1, u2, ho'⟩, put_self _ _ _, fun p hp => mem_put (.tail _ hp) fun e => hn.1 (by rw [← e]; exact List.mem_map_of_mem (f := Prod.fst) hp)⟩⟩
      · obtain ⟨d, od, rfl, hn, ht, hm, hs⟩ := q
        exact Tr.mono pu_args0 fun r n' q => by obtain ⟨rfl, rfl⟩ := q; exact ⟨d, od, rfl, hn, ht, hm, hs⟩
      · obtain ⟨d, od, rfl, hn, ht, hm, hs⟩ := q
        have I3' : Inv prog w (((D.draw mx).draw mx2).setS k { D.s k with ts := (D.s k).ts ++ [⟨c, sPar, y⟩] }) (OnX n6 (n3.map (·.1))) := I3.mono fun p hp => onx_mem.mpr ⟨hs p hp, List.mem_map_of_mem (f := Prod.fst) hp⟩
        exact Tr.mono (tr_mappX (D := ((D.draw mx).draw mx2).setS k { D.s k with ts := (D.s k).ts ++ [⟨c, sPar, y⟩] }) I3' hkm (by show (D.m k).ts.length ≤ 900; omega) hn.1 hn.2 hm ht) fun v n' q => ⟨d, q⟩
    obtain ⟨d, I4⟩ := q
    refine ⟨e, _, I4, ?_, ⟨rfl, rfl, rfl, rfl, Nat.le_refl _⟩⟩
    refine Good.more (Good.upd G2 hkc ?_ ?_ ?_ ?_ ?_ ?_ ?_ (Nat.le_succ b)) (Nat.le_refl _) (by omega)
    any_goals rfl
    refine { src := N.src, mem := N.mem, sl := N.sl, ml := N.ml, cur := N.cur, c0 := N.c0, c1 := N.c1, ts := ?_, tl := ?_, tx := fun t ht => ?_, lz := N.lz, lk := N.lk }
    · show ((D.s k).ts ++ [_]).map tyx = ((D.m k).ts ++ [_]).map tyx
      rw [List.map_append, List.map_append, N.ts]; rfl
    · show ((D.m k).ts ++ [_]).length ≤ b + 1
      simp; omega
    · have ht : t ∈ (D.m k).ts ++ [_] := ht
      rcases List.mem_append.mp ht with ht | ht
      · exact Nat.le_trans (N.tx t ht) (by omega)
      · simp only [List.mem_singleton] at ht
        subst ht
        show y.length ≤ _
        omega
end
end Mine
namespace Mine
theorem fill_frag20 : (PySem.Challenge.rw_bq5015_01, hd.heap_39) = (PySem.Challenge.rw_bq5015_01, hd.heap_39) := by k_fill; rfl
local macro_rules | `(tactic| walk_at "enter") => `(tactic| ((case ho => k_is); (case hcd => k_is); (case hbind => exact fun s _ => BindsTo.of_eq rfl); (case hloc => exact locs rfl); (case c2 => exact rfl); (case c3 => exact rfl); (case c4 => exact rfl); (case c5 => decide)))





section
variable {prog : Program} {w : World} {D : DD} {n : Led} {k : Nat} {b pl : Nat} {dv kv : Value}
theorem s_deed7 (hd : IsI 7 dv) (hk : IsI k kv) (hkc : k < D.cs) (G : Good D b pl) (hb : b ≤ 400) (hpl : pl ≤ 80000) (I : Inv prog w D n) :
    FSpec prog w (.ref 179) [.ref D.B, dv, kv, .ref D.SL, .ref D.ML] 20 n (fun h => Scr h D.script) (Done prog w D b pl) := by
  refine' fspec_of_body (binds := [(Str.ofString "box", .ref D.B), (Str.ofString "deed", dv), (Str.ofString "k", kv), (Str.ofString "states", .ref D.SL), (Str.ofString "models", .ref D.ML)]) ?ho ?hcd ?hbind ?hloc ?hb ?c2 ?c3 ?c4 ?c5
  walk_at "enter"
  rintro A g L hR hB hS _
  have hkm : k < D.cm := by rw [G.cm]; exact hkc
  have c6 := G.c6
  have h6s : D.cs ≤ 1000 := by omega
  have h6 : D.cm ≤ 1000 := by rw [G.cm]; omega
  have N := G.na k hkc
  have hE := endOk_texts _ N.mem
  have hlen : (D.m k).src.length ≤ 9 := hE.1
  refine sx_letPu (P := (· = .ref (D.s k).x)) (pu_state I.kno hkc h6s (pu_local rfl rfl) (pu_local rfl hk)) fun v e => ?_
  subst e
  refine sx_letPu (P := (· = .ref (D.m k).md)) (pu_model I.kno hkm h6 (pu_local rfl rfl) (pu_local rfl hk)) fun v e => ?_
  subst e
  refine sx_letPu (P := IsS (D.m k).src) (pu_mkey I.kno hkm (fun t1 t2 t3 t4 => ⟨_, rfl, ⟨_, rfl⟩⟩) (pu_local rfl rfl) pu_str) fun sv hsv => ?_
  refine sx_letPu (P := (· = .ref (D.m k).mt)) (pu_mkey I.kno hkm (fun t1 t2 t3 t4 => ⟨_, rfl, rfl⟩) (pu_local rfl rfl) pu_str) fun v e => ?_
  subst e
  refine sx_let (tr_drawI (kk := 11) (size := (D.m k).src.length + 3) hB (hR.le (j := 12) (by decide)) hS G (by omega) I (by omega) (pu_local rfl rfl) (pu_add (pu_lenStr hB (by omega) (pu_local rfl hsv)) pu_int)) fun pv n1 q => ?_
  obtain ⟨p, hp, p0, p1, hdr⟩ := q
  obtain ⟨mx, mx0, mx1, I1⟩ := inv_drawn I hdr
  have G1 := G.draw mx0 mx1
  refine sx_skip (pu_testCmp (pu_local rfl hd) pu_int fun a c ha hc => (c_eqI ha hc).to (by decide)) ?_
  refine sx_skip (pu_testCmp (pu_local rfl hd) pu_int fun a c ha hc => (c_eqI ha hc).to (by decide)) ?_
  refine sx_skip (pu_testCmp (pu_local rfl hd) pu_int fun a c ha hc => (c_eqI ha hc).to (by decide)) ?_
  refine sx_skip (pu_testCmp (pu_local rfl hd) pu_int fun a c ha hc => (c_eqI ha hc).to (by decide)) ?_
  refine sx_skip (pu_testCmp (pu_local rfl hd) pu_int fun a c ha hc => (c_eqI ha hc).to (by decide)) ?_
  refine sx_skip (pu_testCmp (pu_local rfl hd) pu_int fun a c ha hc => (c_eqI ha hc).to (by decide)) ?_
  refine sx_skip (pu_testCmp (pu_local rfl hd) pu_int fun a c ha hc => (c_eqI ha hc).to (by decide)) ?_
  refine sx_ifT (pu_testCmp (pu_local rfl hd) pu_int fun a c ha hc => (c_eqI ha hc).to (by decide)) ?_
  have htl : (D.s k).ts.length = (D.m k).ts.length := by have := congrArg List.length N.ts; simpa using this
  have h1 := N.tl
  refine sx_letPu (P := (· = lastV (refsOf (D.m k).ts))) (pu_lawLast (kk := 5) hB (hR.le (by decide)) (by simp; omega) (I1.kno.imp fun h i => rd_mt (D := D.draw mx) i hkm) (pu_local rfl rfl)) fun lv e => ?_
  subst e
  have hsl : (D.s k).f.src.length ≤ 9 := by rw [N.src]; exact hlen
  have hsl2 := PySem.Txt.slice_le (D.s k).f.src (some (D.s k).f.cur) (some (lend (D.s k).f.src (D.s k).f.cur))
  by_cases hpar : ∃ r t r' t', (D.s k).ts = r ++ [t] ∧ (D.m k).ts = r' ++ [t'] ∧ r.map tyx = r'.map tyx ∧ t.ty = t'.ty ∧ t.tx = t'.tx ∧ t'.ty = sPar
  · obtain ⟨r, t, r', t', e1, e2, e3, e4, e5, e6⟩ := hpar
    have htx := N.tx t' (by rw [e2]; simp)
    obtain ⟨sl, hsle⟩ : ∃ sl, sl = Txt.slice (D.s k).f.src (some (D.s k).f.cur) (some (lend (D.s k).f.src (D.s k).f.cur)) := ⟨_, rfl⟩
    have hsll : sl.length ≤ 9 := by rw [hsle]; omega
    refine sx_let (P := fun v n' => IsI (lend (D.m k).src (D.m k).cur) v ∧ Inv prog w ((D.draw mx).setS k { D.s k with ts := r ++ [{ t with tx := t.tx ++ sl }] }) n') (tr_Method (pu_local (P := (· = .ref (D.s k).x)) rfl rfl) fun ov q => ?_) fun tv n3 q => ?_
    · subst q
      refine ⟨_, _, pu_meth hB (I1.kno.imp fun h i => rd_bs (D := D.draw mx) i hkc) (m_append_paragraph w) (fn_append_paragraph w) (by intros; rfl), tr_callWith0 hB (kp_append_paragraph w) ?_⟩
      refine Tr.mono (tr_appJoin (D := D.draw mx) hB (hR.le (by decide)) I1 hkc (by show (D.s k).ts.length ≤ 900; omega) e1 (e4.trans e6) (by rw [e5]; omega) (by show (D.s k).f.src.length ≤ 1000; omega) (by show (Txt.slice (D.s k).f.src (some (D.s k).f.cur) (some (lend (D.s k).f.src (D.s k).f.cur))).length ≤ 1000; omega)) fun v n' q => ?_
      obtain ⟨q1, q2⟩ := q
      rw [hsle, ← N.src, ← N.cur]
      exact ⟨q1, q2⟩
    obtain ⟨htv, I3⟩ := q
    have hlv : lastV (refsOf (D.m k).ts) = .ref t'.a := by rw [e2, lastV_snoc]
    have hK : Kno g n3 (fun h => ∃ t1 t2, h.DictOf (strKind prog w) t'.a [(sType, .str t'.ty t1), (sText, .str t'.tx t2)]) := I3.kno.imp fun h i => by
      obtain ⟨⟨o, ho, t1, t2, hd⟩, _⟩ := rd_mtok (D := (D.draw mx).setS k { D.s k with ts := r ++ [{ t with tx := t.tx ++ sl }] }) (t := t') i hkm (by show t' ∈ (D.m k).ts; rw [e2]; simp)
      exact ⟨t1, t2, Heap.dictOf_iff.mpr ⟨o, ho, hd⟩⟩
    refine sx_skip (pu_orF (pu_testCmp (pu_local (P := (· = .ref t'.a)) rfl hlv) pu_none fun a c ha hc => (c_isNone hc).to (by rw [ha]; rfl)) (pu_orF (pu_testCmp (pu_tokKey hK (.inl ⟨rfl, rfl⟩) (pu_local rfl hlv) pu_str) pu_str fun a c ha hc => (c_neS ha hc).to (by rw [e6]; simp)) pu_orE)) ?_
    refine sx_letPu (P := IsI (lend (D.m k).src (D.m k).cur)) (pu_lawEnd (kk := 5) (i := (D.m k).cur) hB (hR.le (by decide)) N.c0 N.c1 hE (pu_local rfl hsv) (pu_mkey (D := (D.draw mx).setS k { D.s k with ts := r ++ [{ t with tx := t.tx ++ sl }] }) I3.kno hkm (fun t1 t2 t3 t4 => ⟨_, rfl, ⟨_, rfl⟩⟩) (pu_local rfl rfl) pu_str)) fun ev hev => ?_
    refine sx_put (Pe := IsS (t'.tx ++ sl)) ?_ (pu_local (P := (· = .ref t'.a)) rfl hlv) pu_str fun v iv hv hi => Tr.mono (tr_mtokSet (D := (D.draw mx).setS k { D.s k with ts := r ++ [{ t with tx := t.tx ++ sl }] }) I3 hkm e2 hi hv) fun _ n4 I4 => (sx_retPu (pu_Compare (pu_local rfl htv) (pu_local rfl hev) fun a c ha hc => (c_eqI ha hc).to (b := true) (by simp)) fun v e => ?_)
    · have e7 : sl = Txt.slice (D.m k).src (some (D.m k).cur) (some (lend (D.m k).src (D.m k).cur)) := by rw [hsle, N.src, N.cur]
      rw [e7]
      rw [e7] at hsll
      exact pu_cat (by rw [sizeLine_eq]; omega) (pu_tokKey hK (.inr ⟨rfl, rfl⟩) (pu_local rfl hlv) pu_str) (pu_sliceSS (by rw [sizeLine_eq]; omega) (pu_local rfl hsv) (pu_mkey (D := (D.draw mx).setS k { D.s k with ts := r ++ [{ t with tx := t.tx ++ sl }] }) (P := IsI (D.m k).cur) I3.kno hkm (fun t1 t2 t3 t4 => ⟨_, rfl, ⟨_, rfl⟩⟩) (pu_local rfl rfl) pu_str) (pu_local rfl hev))
    refine ⟨e, _, I4, ?_, ⟨rfl, rfl, rfl, rfl, Nat.le_refl _⟩⟩
    refine Good.more (Good.upd G1 hkc ?_ ?_ ?_ ?_ ?_ ?_ ?_ (Nat.le_succ b)) (Nat.le_refl _) (by omega)
    any_goals rfl
    refine { src := N.src, mem := N.mem, sl := N.sl, ml := N.ml, cur := N.cur, c0 := N.c0, c1 := N.c1, ts := ?_, tl := ?_, tx := fun u hu => ?_, lz := N.lz, lk := N.lk }
    · show (r ++ [_]).map tyx = (r' ++ [_]).map tyx
      rw [List.map_append, List.map_append, e3]
      simp [tyx, e4, e5]
    · show (r' ++ [_]).length ≤ b + 1
      rw [e2] at h1; simp at h1 ⊢; omega
    · have hu : u ∈ r' ++ [_] := hu
      rcases List.mem_append.mp hu with hu | hu
      · exact Nat.le_trans (N.tx u (by rw [e2]; exact List.mem_append_left _ hu)) (by omega)
      · simp only [List.mem_singleton] at hu
        subst hu
        show (t'.tx ++ sl).length ≤ _
        rw [str_len_append]; omega
  · have hpair := last_pair N
    have hno : ∀ r t, (D.s k).ts = r ++ [t] → t.ty ≠ sPar := fun r t e0 e => by
      rcases hpair with ⟨h, _⟩ | ⟨r1, t1, r', t', e1, e2, e3, e4, e5⟩
      · rw [h] at e0; simp at e0
      · rw [e1] at e0
        obtain ⟨_, e6⟩ := List.append_inj' e0 rfl
        have e6 : t1 = t := by simpa using e6
        exact hpar ⟨r1, t1, r', t', e1, e2, e3, e4, e5, by rw [← e4, e6]; exact e⟩
    refine sx_let (P := fun v n' => n' = n1 ∧ v = .none) (tr_Method (pu_local (P := (· = .ref (D.s k).x)) rfl rfl) fun ov q => ?_) fun tv n3 q => ?_
    · subst q
      exact ⟨_, _, pu_meth hB (I1.kno.imp fun h i => rd_bs (D := D.draw mx) i hkc) (m_append_paragraph w) (fn_append_paragraph w) (by intros; rfl), tr_callWith0 hB (kp_append_paragraph w) (tr_appNone (D := D.draw mx) hB (hR.le (by decide)) I1 hkc (by show (D.s k).ts.length ≤ 900; omega) hno)⟩
    obtain ⟨rfl, rfl⟩ := q
    refine sx_ifT ?_ (sx_retPu (pu_Compare (pu_local (P := (· = .none)) rfl rfl) pu_none fun a c ha hc => (c_isNone hc).to (b := true) (by rw [ha]; rfl)) fun v e => ⟨e, _, I1, G1.more (Nat.le_succ _) (by omega), ⟨rfl, rfl, rfl, rfl, Nat.le_refl _⟩⟩)
    rcases hpair with ⟨_, h⟩ | ⟨r1, t1, r', t', e1, e2, e3, e4, e5⟩
    · exact pu_orT (pu_testCmp (pu_local (P := (· = .none)) rfl (by rw [h]; rfl)) pu_none fun a c ha hc => (c_isNone hc).to (by rw [ha]; rfl))
    · have hlv : lastV (refsOf (D.m k).ts) = .ref t'.a := by rw [e2, lastV_snoc]
      have hK : Kno g n3 (fun h => ∃ t1 t2, h.DictOf (strKind prog w) t'.a [(sType, .str t'.ty t1), (sText, .str t'.tx t2)]) := I1.kno.imp fun h i => by
        obtain ⟨⟨o, ho, t1, t2, hd⟩, _⟩ := rd_mtok (D := D.draw mx) (t := t') i hkm (by show t' ∈ (D.m k).ts; rw [e2]; simp)
        exact ⟨t1, t2, Heap.dictOf_iff.mpr ⟨o, ho, hd⟩⟩
      refine pu_orF (pu_testCmp (pu_local (P := (· = .ref t'.a)) rfl hlv) pu_none fun a c ha hc => (c_isNone hc).to (by rw [ha]; rfl)) (pu_orT (pu_testCmp (pu_tokKey hK (.inl ⟨rfl, rfl⟩) (pu_local rfl hlv) pu_str) pu_str fun a c ha hc => (c_neS ha hc).to ?_))
      have : t'.ty ≠ sPar := fun e => hno r1 t1 e1 (e4.trans e)
      simpa using this
end
end Mine
namespace Mine
theorem fill_frag21 : (PySem.Challenge.rw_bq5015_01, hd.heap_39) = (PySem.Challenge.rw_bq5015_01, hd.heap_39) := by k_fill; rfl
local macro_rules | `(tactic| walk_at "enter") => `(tactic| ((case ho => k_is); (case hcd => k_is); (case hbind => exact fun s _ => BindsTo.of_eq rfl); (case hloc => exact locs rfl); (case c2 => exact rfl); (case c3 => exact rfl); (case c4 => exact rfl); (case c5 => decide)))






def kvset (kv : List (Str × Int)) (k : Str) (i : Int) : List (Str × Int) := if kv.any (fun p => p.1 = k) then kv.map (fun p => if p.1 = k then (p.1, i) else p) else kv ++ [(k, i)]
theorem kvset_len (kv : List (Str × Int)) (k : Str) (i : Int) : (kvset kv k i).length ≤ kv.length + 1 := by
  unfold kvset; split <;> simp
theorem kvset_keys (kv : List (Str × Int)) (k : Str) (i : Int) : (kv.map fun p => if p.1 = k then (p.1, i) else p).map (·.1) = kv.map (·.1) := by
  rw [List.map_map]
  refine List.map_congr_left fun p _ => ?_
  show (if p.1 = k then (p.1, i) else p).1 = p.1
  split <;> rfl
theorem kvset_nodup (kv : List (Str × Int)) (k : Str) (i : Int) (h : (kv.map (·.1)).Nodup) : ((kvset kv k i).map (·.1)).Nodup := by
  unfold kvset
  by_cases e : (kv.any fun p => p.1 = k) = true
  · rw [if_pos e, kvset_keys]; exact h
  · rw [if_neg e, List.map_append, List.nodup_append]
    refine ⟨h, by simp, fun a ha b hb e2 => e ?_⟩
    obtain rfl : b = k := by simpa using hb
    subst e2
    obtain ⟨p, hp, e3⟩ := List.mem_map.mp ha
    exact List.any_eq_true.mpr ⟨p, hp, by simpa using e3⟩
theorem KVs.any : ∀ {a : List (Str × Value)} {kv : List (Str × Int)} (k : Str), KVs a kv → (a.any fun p => p.1 = k) = kv.any fun p => p.1 = k
  | _, _, k, .nil => rfl
  | _, _, k, .cons k0 i0 t0 h => by simp [KVs.any k h]
theorem KVs.map : ∀ {a : List (Str × Value)} {kv : List (Str × Int)} (k : Str) (i : Int) (t : Tok), KVs a kv → KVs (a.map fun p => if p.1 = k then (p.1, .int i t) else p) (kv.map fun p => if p.1 = k then (p.1, i) else p)
  | _, _, k, i, t, .nil => .nil
  | _, _, k, i, t, .cons k0 i0 t0 h => by
    by_cases e : k0 = k
    · simp only [List.map_cons, e, if_true]; exact .cons k i t (KVs.map k i t h)
    · simp only [List.map_cons, e, if_false]; exact .cons k0 i0 t0 (KVs.map k i t h)
theorem KVs.append : ∀ {a : List (Str × Value)} {kv : List (Str × Int)} (k : Str) (i : Int) (t : Tok), KVs a kv → KVs (a ++ [(k, .int i t)]) (kv ++ [(k, i)])
  | _, _, k, i, t, .nil => .cons k i t .nil
  | _, _, k, i, t, .cons k0 i0 t0 h => .cons k0 i0 t0 (KVs.append k i t h)
theorem KVs.stored {a : List (Str × Value)} {kv : List (Str × Int)} (k : Str) (i : Int) (t : Tok) (h : KVs a kv) : KVs (PySem.stored a k (.int i t)) (kvset kv k i) := by
  unfold PySem.stored kvset
  rw [h.any k]
  split
  · exact h.map k i t
  · exact h.append k i t
section
variable {prog : Program} {w : World} {D : DD} {n n' : Led} {g : Heap} {k : Nat} {b pl : Nat} {A : Around} {s : Shared} {L : Addr} {m : Str → Option Value} {X : List Addr}
theorem tr_lkSet {e : Bool} {x : Str} {i : Int} {key v : Value} (I : Inv prog w D n) (hz : (D.e e).kv.length ≤ 900) (hkey : IsS x key) (hv : IsI i v) : Tr prog w A g L m n (setItem (.ref (D.e e).sl) key v) (fun _ n' => Inv prog w (D.setE e { D.e e with kv := kvset (D.e e).kv x i }) n') := by
  obtain ⟨o, hm, vals, hV, hd⟩ := inv_lk I e
  obtain ⟨t, rfl⟩ := hv
  exact tr_setDict hm hd hkey (by rw [hV.length]; omega) fun o' ho' => inv_lk_up I (put_self _ _ _) ⟨_, hV.stored x i t, ho'⟩ Kp.put
theorem tr_mlkSet {e : Bool} {a : Addr} {x : Str} {i : Int} {key v : Value} (I : Inv prog w D n) (ha : (D.e e).ml = a) (hz : (D.e e).mkv.length ≤ 900) (hkey : IsS x key) (hv : IsI i v) : Tr prog w A g L m n (setItem (.ref a) key v) (fun _ n' => Inv prog w (D.setE e { D.e e with mkv := kvset (D.e e).mkv x i }) n') := by
  subst ha
  obtain ⟨o, hm, vals, hV, hd⟩ := inv_mlk I e
  obtain ⟨t, rfl⟩ := hv
  exact tr_setDict hm hd hkey (by rw [hV.length]; omega) fun o' ho' => inv_mlk_up I (put_self _ _ _) ⟨_, hV.stored x i t, ho'⟩ Kp.put
theorem Good.updE (G : Good D b pl) {e : Bool} {N : EN} (h1 : N.se = (D.e e).se) (h2 : N.me = (D.e e).me) {b' : Nat} (hA : EnvA N b') (hb : b ≤ b') : Good (D.setE e N) b' pl := by
  have G' := G.more hb (Nat.le_refl _)
  have hse : ∀ j, ((D.setE e N).e j).se = (D.e j).se := fun j => by
    show (if j = e then N else D.e j).se = _
    by_cases h : j = e <;> simp [h, h1]
  have hme : ∀ j, ((D.setE e N).e j).me = (D.e j).me := fun j => by
    show (if j = e then N else D.e j).me = _
    by_cases h : j = e <;> simp [h, h2]
  refine ⟨G.c2, G.c6, G.cm, G.pl0, G.pl1, G.m0, G.m1, G'.na, fun k hk => ?_, fun j => ?_, G.e0, G.e1⟩
  · have L := G.nl k hk
    exact ⟨by rw [hse]; exact L.se, by rw [hme]; exact L.me, L.p0, L.p1⟩
  · show EnvA (if j = e then N else D.e j) b'
    by_cases h : j = e
    · rw [if_pos h]; exact hA
    · rw [if_neg h]; exact G'.ea j
theorem digits : ∀ q : Nat, q < 13 → (Str.ofString (toString (q : Int))).length ≤ 5 := by decide +kernel
end
section
variable {prog : Program} {w : World} {n : Led} {g : Heap} {A : Around} {L : Addr} {m : Str → Option Value} {env : Env} {pos : Pos} {value slice : Expr}
/-- env['ref_links'] -/
theorem pu_envKey {se sl : Addr} (hK : Kno g n (fun h => h.DictOf (strKind prog w) se [(sLinks, .ref sl)])) (hv : Pu prog w A g L m n (eval value env) (· = .ref se)) (hi : Pu prog w A g L m n (eval slice env) (IsS sLinks))
    (hs : ∀ u, subscripted slice false (.ref se) (.str sLinks u) = operate [.ref se, .str sLinks u] (getItem (.ref se) (.str sLinks u)) := by intro _; with_unfolding_all rfl) :
    Pu prog w A g L m n (eval (.Subscript value slice pos) env) (· = .ref sl) := pu_key hK rfl rfl hv hi hs
end
section
variable {prog : Program} {w : World} {D : DD} {n : Led} {k : Nat} {b pl : Nat} {dv kv : Value}
theorem s_deed9 (hd : IsI 9 dv) (hk : IsI k kv) (hkc : k < D.cs) (G : Good D b pl) (hb : b ≤ 400) (hpl : pl ≤ 80000) (I : Inv prog w D n) :
    FSpec prog w (.ref 179) [.ref D.B, dv, kv, .ref D.SL, .ref D.ML] 20 n (fun h => Scr h D.script) (Done prog w D b pl) := by
  refine' fspec_of_body (binds := [(Str.ofString "box", .ref D.B), (Str.ofString "deed", dv), (Str.ofString "k", kv), (Str.ofString "states", .ref D.SL), (Str.ofString "models", .ref D.ML)]) ?ho ?hcd ?hbind ?hloc ?hb ?c2 ?c3 ?c4 ?c5
  walk_at "enter"
  rintro A g L hR hB hS _
  have hkm : k < D.cm := by rw [G.cm]; exact hkc
  have c6 := G.c6
  have h6s : D.cs ≤ 1000 := by omega
  have h6 : D.cm ≤ 1000 := by rw [G.cm]; omega
  have N := G.na k hkc
  have hE := endOk_texts _ N.mem
  have hlen : (D.m k).src.length ≤ 9 := hE.1
  refine sx_letPu (P := (· = .ref (D.s k).x)) (pu_state I.kno hkc h6s (pu_local rfl rfl) (pu_local rfl hk)) fun v e => ?_
  subst e
  refine sx_letPu (P := (· = .ref (D.m k).md)) (pu_model I.kno hkm h6 (pu_local rfl rfl) (pu_local rfl hk)) fun v e => ?_
  subst e
  refine sx_letPu (P := IsS (D.m k).src) (pu_mkey I.kno hkm (fun t1 t2 t3 t4 => ⟨_, rfl, ⟨_, rfl⟩⟩) (pu_local rfl rfl) pu_str) fun sv hsv => ?_
  refine sx_letPu (P := (· = .ref (D.m k).mt)) (pu_mkey I.kno hkm (fun t1 t2 t3 t4 => ⟨_, rfl, rfl⟩) (pu_local rfl rfl) pu_str) fun v e => ?_
  subst e
  refine sx_let (tr_drawI (kk := 11) (size := (D.m k).src.length + 3) hB (hR.le (j := 12) (by decide)) hS G (by omega) I (by omega) (pu_local rfl rfl) (pu_add (pu_lenStr hB (by omega) (pu_local rfl hsv)) pu_int)) fun pv n1 q => ?_
  obtain ⟨p, hp, p0, p1, hdr⟩ := q
  obtain ⟨mx, mx0, mx1, I1⟩ := inv_drawn I hdr
  have G1 := G.draw mx0 mx1
  refine sx_skip (pu_testCmp (pu_local rfl hd) pu_int fun a c ha hc => (c_eqI ha hc).to (by decide)) ?_
  refine sx_skip (pu_testCmp (pu_local rfl hd) pu_int fun a c ha hc => (c_eqI ha hc).to (by decide)) ?_
  refine sx_skip (pu_testCmp (pu_local rfl hd) pu_int fun a c ha hc => (c_eqI ha hc).to (by decide)) ?_
  refine sx_skip (pu_testCmp (pu_local rfl hd) pu_int fun a c ha hc => (c_eqI ha hc).to (by decide)) ?_
  refine sx_skip (pu_testCmp (pu_local rfl hd) pu_int fun a c ha hc => (c_eqI ha hc).to (by decide)) ?_
  refine sx_skip (pu_testCmp (pu_local rfl hd) pu_int fun a c ha hc => (c_eqI ha hc).to (by decide)) ?_
  refine sx_skip (pu_testCmp (pu_local rfl hd) pu_int fun a c ha hc => (c_eqI ha hc).to (by decide)) ?_
  refine sx_skip (pu_testCmp (pu_local rfl hd) pu_int fun a c ha hc => (c_eqI ha hc).to (by decide)) ?_
  refine sx_skip (pu_testCmp (pu_local rfl hd) pu_int fun a c ha hc => (c_eqI ha hc).to (by decide)) ?_
  refine sx_ifT (pu_testCmp (pu_local rfl hd) pu_int fun a c ha hc => (c_eqI ha hc).to (by decide)) ?_
  have NL := G.nl k hkc
  obtain ⟨e, he⟩ : ∃ e, e = (D.m k).ev := ⟨_, rfl⟩
  have EA := G.ea e
  have hkl := EA.kl
  have hkl2 : (D.e e).kv.length ≤ 900 := by rw [EA.kv]; omega
  obtain ⟨q, rfl⟩ : ∃ q : Nat, p = q := ⟨p.toNat, by omega⟩
  have hdg := digits q (by omega)
  obtain ⟨key, hkeyd⟩ : ∃ key : Str, key = Str.ofString "K" ++ Str.ofString (toString (q : Int)) := ⟨_, rfl⟩
  have hsz : (Str.ofString "K").length + (Str.ofString (toString (q : Int))).length ≤ sizeLine := by
    have : (Str.ofString "K").length = 1 := by decide +kernel
    rw [sizeLine_eq]; omega
  have hlog : (q : Int).natAbs.log2 < 1920 := by
    have : (q : Int).natAbs = q := by omega
    rw [this]
    exact Nat.lt_of_le_of_lt (Nat.log2_le_self q) (by omega)
  refine sx_letPu (P := (· = .ref (D.e e).sl)) (pu_envKey (se := (D.e e).se) (I1.kno.imp fun h i => (rd_env (D := D.draw mx) i e).1) (Pu.mono (pu_env hB (I1.kno.imp fun h i => rd_bs (D := D.draw mx) i hkc) (pu_local rfl rfl)) fun v z => by rw [z, he]; exact congrArg Value.ref NL.se) pu_str) fun v z => ?_
  subst z
  refine sx_put (Pk := IsS key) (pu_local rfl hp) (pu_local (P := (· = .ref (D.e e).sl)) rfl rfl) (by
    rw [hkeyd]
    exact pu_cat hsz pu_str (tr_Call (pu_B hB (b_str w) rfl (by decide) rfl) (tr_callWithB (fun a e => by cases e) (pu_args (pu_local rfl hp) pu_args0) fun vs n2 z => by
      obtain ⟨rfl, v, r, rfl, hv, rfl⟩ := z
      exact tr_strInt hv hlog))) fun v iv hv hi => Tr.mono (tr_lkSet (D := D.draw mx) I1 hkl2 hi hv) fun _ n2 I2 => ?_
  refine sx_letPu (P := (· = .ref (D.e e).ml)) (pu_envKey (se := (D.e e).me) (I2.kno.imp fun h i => ?_) (Pu.mono (pu_mkey (D := (D.draw mx).setE e { D.e e with kv := kvset (D.e e).kv key q }) (P := (· = .ref (D.m k).env)) I2.kno hkm (fun t1 t2 t3 t4 => ⟨_, rfl, rfl⟩) (pu_local rfl rfl) pu_str) fun v z => by rw [z, he]; exact congrArg Value.ref NL.me) pu_str) fun v z => ?_
  · have := (rd_menv (D := (D.draw mx).setE e { D.e e with kv := kvset (D.e e).kv key q }) i e).1
    rw [DD.setE_self] at this
    exact this
  subst z
  refine sx_put (Pk := IsS key) (pu_local rfl hp) (pu_local (P := (· = .ref (D.e e).ml)) rfl rfl) (by
    rw [hkeyd]
    exact pu_cat hsz pu_str (tr_Call (pu_B hB (b_str w) rfl (by decide) rfl) (tr_callWithB (fun a e => by cases e) (pu_args (pu_local rfl hp) pu_args0) fun vs n2 z => by
      obtain ⟨rfl, v, r, rfl, hv, rfl⟩ := z
      exact tr_strInt hv hlog))) fun v iv hv hi => ?_
  refine Tr.mono (tr_mlkSet I2 (e := e) (by first | (rw [DD.setE_self]; done) | (rw [DD.setE_self]; rfl)) (by rw [DD.setE_self]; show (D.e e).mkv.length ≤ 900; omega) hi hv) fun _ n3 I3 => sx_retPu pu_bool fun v z => ?_
  rw [DD.setE_self] at I3
  rw [DD.setE_setE] at I3
  refine ⟨z, _, I3, ?_, ⟨rfl, rfl, rfl, rfl, Nat.le_refl _⟩⟩
  refine Good.more (Good.updE G1 ?_ ?_ ?_ (Nat.le_succ b)) (Nat.le_refl _) (by omega)
  any_goals rfl
  exact { kv := by show kvset (D.e e).kv key q = kvset (D.e e).mkv key q; rw [EA.kv], kl := Nat.le_trans (kvset_len _ _ _) (Nat.succ_le_succ EA.kl), kn := kvset_nodup _ _ _ EA.kn }
end
end Mine
namespace Mine
theorem fill_frag22 : (PySem.Challenge.rw_bq5015_01, hd.heap_39) = (PySem.Challenge.rw_bq5015_01, hd.heap_39) := by k_fill; rfl
local macro_rules | `(tactic| walk_at "enter") => `(tactic| ((case ho => k_is); (case hcd => k_is); (case hbind => exact fun s _ => BindsTo.of_eq rfl); (case hloc => exact locs rfl); (case c2 => exact rfl); (case c3 => exact rfl); (case c4 => exact rfl); (case c5 => decide)))






section
variable {prog : Program} {w : World} {D : DD} {n n' : Led} {g : Heap} {k : Nat} {b pl : Nat} {A : Around} {s : Shared} {L : Addr} {m : Str → Option Value} {X : List Addr}
theorem inv_sl (I : Inv prog w D n) : ∃ c, (D.SL, listOf (((List.range D.cs).map fun j => (D.s j).x).map Value.ref).toArray c) ∈ n := by
  obtain ⟨_, o, h2, c, rfl⟩ := I.cell fun σ R => R .sl
  exact ⟨c, h2⟩
theorem inv_ml (I : Inv prog w D n) : ∃ c, (D.ML, listOf (((List.range D.cm).map fun j => (D.m j).md).map Value.ref).toArray c) ∈ n := by
  obtain ⟨_, o, h2, c, rfl⟩ := I.cell fun σ R => R .ml
  exact ⟨c, h2⟩
section
variable {cn : Str} {cs : Scope} {a : Addr} {ccd : Value} {pos p : Pos} {e1 e2 : Expr}
/-- _law_draw(box, size) on a part -/
theorem tr_drawX {size : Int} {kk : Nat} (hB : Bas w g) (hR : Room A (kk + 1)) (hS : Scr g D.script) (G : Good D b pl) (hpl : pl ≤ 90000) (I : Inv prog w D (OnX n X)) (hs : 0 < size)
    (hx1 : Pu prog w A g L m n (eval e1 (envOf cn cs L a ccd)) (· = .ref D.B)) (hx2 : Pu prog w A g L m n (eval e2 (envOf cn cs L a ccd)) (IsI size))
    (hk : cs.kind = .function := by rfl) (hx : (envOf cn cs L a ccd).kindOf (Str.ofString "_law_draw") = some .globalImplicit := by rfl)
    (he : eval (.Call (.Name (Str.ofString "_law_draw") p) [e1, e2] [] pos) (envOf cn cs L a ccd) = (do callWith pos (← eval (.Name (Str.ofString "_law_draw") p) (envOf cn cs L a ccd)) [] (backTo pos (starEach [e1, e2] (envOf cn cs L a ccd))) (backToKw pos (keywordEach [] (envOf cn cs L a ccd)))) := by rfl)
    (hs1 : starEach [e1, e2] (envOf cn cs L a ccd) = (false, eval e1 (envOf cn cs L a ccd)) :: starEach [e2] (envOf cn cs L a ccd) := by rfl) (hs2 : starEach [e2] (envOf cn cs L a ccd) = (false, eval e2 (envOf cn cs L a ccd)) :: starEach [] (envOf cn cs L a ccd) := by rfl)
    (hp1 : (backTo pos (starEach [e2] (envOf cn cs L a ccd))).any (·.1) = false := by rfl) :
    Tr prog w A g L m n (eval (.Call (.Name (Str.ofString "_law_draw") p) [e1, e2] [] pos) (envOf cn cs L a ccd))
      (fun v N' => ∃ d, IsI d v ∧ 0 ≤ d ∧ d < size ∧ ∃ mix, 0 ≤ mix ∧ mix < 2147483647 ∧ Inv prog w (D.draw mix) (OnX N' X) ∧ D.B ∈ X ∧ ∀ p ∈ n, p.1 ≠ D.B → p ∈ N') := by
  obtain ⟨vs, ns, hI, h63, hl⟩ := hS.ex
  obtain ⟨oB, hm, hb⟩ := inv_box I
  refine Tr.mono (tr_draw hB hR (onx_mem.mp hm).1 hb hs G.pl0 (by have := G.pl1; omega) G.m0 G.m1 hI h63 hl hx1 hx2 hk hx he hs1 hs2 hp1) fun v N' q => ?_
  obtain ⟨d, hd, d0, d1, hD⟩ := q
  exact ⟨d, hd, d0, d1, inv_drawnX I (fun p h => h) hD⟩
end
/-- the row of the lazy lists -/
def LazyRow (n : Led) (v : Value) (n1 : Led) : Prop := ∃ (o : Addr) (items : List Value), v = .ref o ∧ New n o ∧ (o, listOf items.toArray 0) ∈ n1 ∧ (∀ p ∈ n, p ∈ n1) ∧ items.length = 3 ∧
  ∀ (i : Nat) (u : Value), items[i]? = some u → ∃ mz lz om, u = .ref mz ∧ New n mz ∧ (mz, om) ∈ n1 ∧ IsIntL lz om ∧ (lz = [] ∨ lz = [0] ∨ lz = [1, 4])
/-- the lazy argument made -/
def LzOk (w : World) (n3 : Led) (lz : List Int) (lzo : Option (Addr × List Int)) (n5 : Led) : Prop := (lzo = none ∧ lz = [] ∧ n5 = n3) ∨ ∃ S0 oS, lzo = some (S0, lz) ∧ lz ≠ [] ∧ New n3 S0 ∧ IsSet w lz oS ∧ n5 = (S0, oS) :: n3
theorem tr_intList {env : Env} {pos : Pos} {elts : List Expr} {l : List Int} (hB : Bas w g) (h : Pu prog w A g L m n (spliced (backTo pos (starEach elts env))) (fun vs => IntsAre vs l)) (hz : l.length ≤ 100) :
    Tr prog w A g L m n (eval (.List elts pos) env) (fun v n1 => ∃ a om, v = .ref a ∧ New n a ∧ IsIntL l om ∧ n1 = (a, om) :: n) :=
  tr_List hB h fun vs n1 q => by
    obtain ⟨rfl, hI⟩ := q
    exact ⟨by rw [hI.length]; omega, fun a ha => ⟨a, _, rfl, ha, ⟨vs, 0, hI, rfl⟩, rfl⟩⟩
end
section
variable {prog : Program} {w : World} {D : DD} {n : Led} {k : Nat} {b pl : Nat} {dv kv : Value}
theorem s_deed10 (hd : IsI 10 dv) (hk : IsI k kv) (hkc : k < D.cs) (G : Good D b pl) (hb : b ≤ 400) (hpl : pl ≤ 80000) (I : Inv prog w D n) :
    FSpec prog w (.ref 179) [.ref D.B, dv, kv, .ref D.SL, .ref D.ML] 20 n (fun h => Scr h D.script) (Done prog w D b pl) := by
  refine' fspec_of_body (binds := [(Str.ofString "box", .ref D.B), (Str.ofString "deed", dv), (Str.ofString "k", kv), (Str.ofString "states", .ref D.SL), (Str.ofString "models", .ref D.ML)]) ?ho ?hcd ?hbind ?hloc ?hb ?c2 ?c3 ?c4 ?c5
  walk_at "enter"
  rintro A g L hR hB hS _
  have hkm : k < D.cm := by rw [G.cm]; exact hkc
  have c6 := G.c6
  have h6s : D.cs ≤ 1000 := by omega
  have h6 : D.cm ≤ 1000 := by rw [G.cm]; omega
  have N := G.na k hkc
  have hE := endOk_texts _ N.mem
  have hlen : (D.m k).src.length ≤ 9 := hE.1
  refine sx_letPu (P := (· = .ref (D.s k).x)) (pu_state I.kno hkc h6s (pu_local rfl rfl) (pu_local rfl hk)) fun v e => ?_
  subst e
  refine sx_letPu (P := (· = .ref (D.m k).md)) (pu_model I.kno hkm h6 (pu_local rfl rfl) (pu_local rfl hk)) fun v e => ?_
  subst e
  refine sx_letPu (P := IsS (D.m k).src) (pu_mkey I.kno hkm (fun t1 t2 t3 t4 => ⟨_, rfl, ⟨_, rfl⟩⟩) (pu_local rfl rfl) pu_str) fun sv hsv => ?_
  refine sx_letPu (P := (· = .ref (D.m k).mt)) (pu_mkey I.kno hkm (fun t1 t2 t3 t4 => ⟨_, rfl, rfl⟩) (pu_local rfl rfl) pu_str) fun v e => ?_
  subst e
  refine sx_let (tr_drawI (kk := 11) (size := (D.m k).src.length + 3) hB (hR.le (j := 12) (by decide)) hS G (by omega) I (by omega) (pu_local rfl rfl) (pu_add (pu_lenStr hB (by omega) (pu_local rfl hsv)) pu_int)) fun pv n1 q => ?_
  obtain ⟨p, hp, p0, p1, hdr⟩ := q
  obtain ⟨mx, mx0, mx1, I1⟩ := inv_drawn I hdr
  have G1 := G.draw mx0 mx1
  refine sx_skip (pu_testCmp (pu_local rfl hd) pu_int fun a c ha hc => (c_eqI ha hc).to (by decide)) ?_
  refine sx_skip (pu_testCmp (pu_local rfl hd) pu_int fun a c ha hc => (c_eqI ha hc).to (by decide)) ?_
  refine sx_skip (pu_testCmp (pu_local rfl hd) pu_int fun a c ha hc => (c_eqI ha hc).to (by decide)) ?_
  refine sx_skip (pu_testCmp (pu_local rfl hd) pu_int fun a c ha hc => (c_eqI ha hc).to (by decide)) ?_
  refine sx_skip (pu_testCmp (pu_local rfl hd) pu_int fun a c ha hc => (c_eqI ha hc).to (by decide)) ?_
  refine sx_skip (pu_testCmp (pu_local rfl hd) pu_int fun a c ha hc => (c_eqI ha hc).to (by decide)) ?_
  refine sx_skip (pu_testCmp (pu_local rfl hd) pu_int fun a c ha hc => (c_eqI ha hc).to (by decide)) ?_
  refine sx_skip (pu_testCmp (pu_local rfl hd) pu_int fun a c ha hc => (c_eqI ha hc).to (by decide)) ?_
  refine sx_skip (pu_testCmp (pu_local rfl hd) pu_int fun a c ha hc => (c_eqI ha hc).to (by decide)) ?_
  refine sx_skip (pu_testCmp (pu_local rfl hd) pu_int fun a c ha hc => (c_eqI ha hc).to (by decide)) ?_
  by_cases hc6 : D.cs = 6
  · refine sx_ifT (pu_testCmp (pu_lenList hB (I1.kno.imp fun h i => rd_states (D := D.draw mx) i) (by show ((((List.range D.cs).map fun j => (D.s j).x).map Value.ref).toArray.size : Int) < _; simp; omega) (pu_local (P := (· = .ref D.SL)) rfl rfl)) pu_int fun a c ha hc => (c_geI ha hc).to ?_) (sx_retPu pu_bool fun v e => ⟨e, _, I1, G1.more (Nat.le_succ _) (by omega), ⟨rfl, rfl, rfl, rfl, Nat.le_refl _⟩⟩)
    show decide ((6 : Int) ≤ ((((List.range D.cs).map fun j => (D.s j).x).map Value.ref).toArray.size : Int)) = true
    simp; omega
  refine sx_skip (pu_testCmp (pu_lenList hB (I1.kno.imp fun h i => rd_states (D := D.draw mx) i) (by show ((((List.range D.cs).map fun j => (D.s j).x).map Value.ref).toArray.size : Int) < _; simp; omega) (pu_local (P := (· = .ref D.SL)) rfl rfl)) pu_int fun a c ha hc => (c_geI ha hc).to ?_) ?_
  · show decide ((6 : Int) ≤ ((((List.range D.cs).map fun j => (D.s j).x).map Value.ref).toArray.size : Int)) = false
    simp; omega
  have htl : (D.s k).ts.length = (D.m k).ts.length := by have := congrArg List.length N.ts; simpa using this
  obtain ⟨items, hil, hi8, hiX, _⟩ := texts_list hB
  have I1 : Inv prog w (D.draw mx) (OnX n1 (n1.map (·.1))) := by rw [onx_all]; exact I1
  refine sx_let (tr_pickX (D := D.draw mx) (kk := 9) hB (hR.le (j := 12) (by decide)) hS G1 (by omega) I1 (pu_local rfl rfl) (rows_K hB (g_law_texts w) hil (by omega) (by omega) hiX)) fun tv n2 q => ?_
  obtain ⟨y, hy, hyv, mx2, mx20, mx21, I2, _, _⟩ := q
  have hyl := (endOk_texts y hy).1
  have G2 := G1.draw mx20 mx21
  have I2 : Inv prog w ((D.draw mx).draw mx2) n2 := I2.full
  obtain ⟨X, hX⟩ : ∃ X, X = n2.map (·.1) := ⟨_, rfl⟩
  refine sx_let (P := fun v n3 => ∃ mz lz om mx3, v = .ref mz ∧ mz ∉ X ∧ (mz == sysModules) = false ∧ (mz, om) ∈ n3 ∧ IsIntL lz om ∧ (lz = [] ∨ lz = [0] ∨ lz = [1, 4]) ∧ Inv prog w (((D.draw mx).draw mx2).draw mx3) (OnX n3 X) ∧ Good (((D.draw mx).draw mx2).draw mx3) b (pl + 3))
    (tr_Subscript (Pv := LazyRow n2) (Pi := fun o i n3 => (∃ n1, LazyRow n2 o n1 ∧ ∃ d, IsI d i ∧ 0 ≤ d ∧ d < 3 ∧ ∃ mix, 0 ≤ mix ∧ mix < 2147483647 ∧ Inv prog w (((D.draw mx).draw mx2).draw mix) (OnX n3 X) ∧ D.B ∈ X ∧ ∀ p ∈ n1, p.1 ≠ D.B → p ∈ n3)) ?_ (fun o n4 q => ?_) fun o i n3 q => ?_) fun lv n3 q => ?_
  · refine tr_List hB (Pa := fun vs n' => vs.length = 3 ∧ (∀ p ∈ n2, p ∈ n') ∧ ∀ (i : Nat) (u : Value), vs[i]? = some u → ∃ mz lz om, u = .ref mz ∧ New n2 mz ∧ (mz, om) ∈ n' ∧ IsIntL lz om ∧ (lz = [] ∨ lz = [0] ∨ lz = [1, 4])) ?_ fun vs n' q => ?_
    · refine tr_args (tr_intList (l := []) hB (Tr.mono pu_args0 fun vs n' q => ⟨q.1, by rw [q.2]; exact .nil⟩) (by decide)) fun v1 n4 q1 => ?_
      obtain ⟨a1, o1, rfl, ha1, ho1, rfl⟩ := q1
      refine tr_args (tr_intList (l := [0]) hB (Tr.mono (pu_args pu_int pu_args0) fun vs n' q => ⟨q.1, by obtain ⟨_, v, r, rfl, ⟨t, rfl⟩, rfl⟩ := q; exact .cons 0 t .nil⟩) (by decide)) fun v2 n4 q2 => ?_
      obtain ⟨a2, o2, rfl, ha2, ho2, rfl⟩ := q2
      refine tr_args (tr_intList (l := [1, 4]) hB (Tr.mono (pu_args pu_int (pu_args pu_int pu_args0)) fun vs n' q => ⟨q.1, by obtain ⟨_, v, r, rfl, ⟨t, rfl⟩, v', r', rfl, ⟨t', rfl⟩, rfl⟩ := q; exact .cons 1 t (.cons 4 t' .nil)⟩) (by decide)) fun v3 n4 q3 => ?_
      obtain ⟨a3, o3, rfl, ha3, ho3, rfl⟩ := q3
      refine Tr.mono pu_args0 fun vs n' q => ?_
      obtain ⟨rfl, rfl⟩ := q
      refine ⟨rfl, fun p hp => .tail _ (.tail _ (.tail _ hp)), fun i u hu => ?_⟩
      have hm := List.mem_of_getElem? hu
      simp only [List.mem_cons, List.not_mem_nil, or_false] at hm
      rcases hm with rfl | rfl | rfl
      · exact ⟨a1, _, o1, rfl, ha1, .tail _ (.tail _ (.head _)), ho1, .inl rfl⟩
      · exact ⟨a2, _, o2, rfl, ha2.lt fun p hp => .tail _ hp, .tail _ (.head _), ho2, .inr (.inl rfl)⟩
      · exact ⟨a3, _, o3, rfl, ha3.lt fun p hp => .tail _ (.tail _ hp), .head _, ho3, .inr (.inr rfl)⟩
    · obtain ⟨h3, hs, hall⟩ := q
      refine ⟨by omega, fun a ha => ⟨a, vs, rfl, ha.lt hs, .head _, fun p hp => .tail _ (hs p hp), h3, fun i u hu => ?_⟩⟩
      obtain ⟨mz, lz, om, e, h1, h2, h4, h5⟩ := hall i u hu
      exact ⟨mz, lz, om, e, h1, .tail _ h2, h4, h5⟩
  · have hs : ∀ p ∈ n2, p ∈ n4 := by obtain ⟨_, _, _, _, _, hs, _⟩ := q; exact hs
    refine Tr.mono (tr_drawX (D := (D.draw mx).draw mx2) (X := X) (size := 3) (kk := 11) hB (hR.le (j := 12) (by decide)) hS G2 (by omega) (I2.mono fun p hp => onx_mem.mpr ⟨hs p hp, by rw [hX]; exact List.mem_map_of_mem (f := Prod.fst) hp⟩) (by decide) (pu_local rfl rfl) pu_int) fun v n' z => ?_
    obtain ⟨d, hd1, d0, d1, mix, z1⟩ := z
    exact ⟨n4, q, d, hd1, d0, d1, mix, z1⟩
  · obtain ⟨n4, ⟨o, items2, rfl, ho, hom, hs, h3, hall⟩, d, ⟨u, rfl⟩, d0, d1, mx3, mx30, mx31, I3, hBX, hk3⟩ := q
    have hoB : o ≠ D.B := fun e => ho.1 (by rw [e, ← hX]; exact hBX)
    have hlt : d.toNat < items2.length := by omega
    obtain ⟨mz, lz, om, e, hmz, hmm, hil2, hlz⟩ := hall d.toNat items2[d.toNat] (List.getElem?_eq_getElem hlt)
    have hmB : mz ≠ D.B := fun e => hmz.1 (by rw [e, ← hX]; exact hBX)
    exact tr_of fun s Q E F NN kk => by
      have hL : s.heap.IsList o items2.toArray := ⟨_, (NN _ (hk3 _ hom hoB)).1, rfl, _, rfl⟩
      exact tail_any hL.typeIs slot_list_getitem.lookup (wpAny_getItem_list hL d0 (by omega) (by simp only [List.getElem?_toArray]; exact List.getElem?_eq_getElem hlt) (kk _ s.toks ⟨mz, lz, om, mx3, e, by rw [hX]; exact hmz.1, hmz.2, hk3 _ hmm hmB, hil2, hlz, I3, G2.draw mx30 mx31⟩)) (by with_unfolding_all rfl)
  obtain ⟨mz, lz, om, mx3, rfl, hmX, hms, hmm, hol, hlz, I3, G3⟩ := q
  obtain ⟨X', hXX, hXN, eX⟩ := onx_trim n3 X
  rw [← eX] at I3
  have hmX' : mz ∉ X' := fun h => hmX (hXX _ h)
  obtain ⟨D3, hD3⟩ : ∃ D3, D3 = ((D.draw mx).draw mx2).draw mx3 := ⟨_, rfl⟩
  have I3 : Inv prog w D3 (OnX n3 X') := by rw [hD3]; exact I3
  have G3 : Good D3 b (pl + 3) := by rw [hD3]; exact G3
  have es : D3.s = D.s := by rw [hD3]; rfl
  have em : D3.m = D.m := by rw [hD3]; rfl
  have ecs : D3.cs = D.cs := by rw [hD3]; rfl
  have ecm : D3.cm = D.cm := by rw [hD3]; rfl
  have eSL : D3.SL = D.SL := by rw [hD3]; rfl
  have eML : D3.ML = D.ML := by rw [hD3]; rfl
  have eB : D3.B = D.B := by rw [hD3]; rfl
  have esc : D3.script = D.script := by rw [hD3]; rfl
  have ee : D3.e = D.e := by rw [hD3]; rfl
  have hkc3 : k < D3.cs := by rw [ecs]; exact hkc
  have hkm3 : k < D3.cm := by rw [ecm]; exact hkm
  have hmm' : mz ∈ n3.map (·.1) := List.mem_map_of_mem (f := Prod.fst) hmm
  have hTyL : ∀ {n'} {a : Addr} {D' : DD}, (∀ h, InvH prog w D' h → ∃ xs, h.IsList a (xs : List Value).toArray) → Inv prog w D' n' → Kno g n' (fun h => ∀ s : Shared, s.heap = h → s.TypeIs (.ref a) "list") := fun hh I' => I'.kno.imp fun h i s e => by
    subst e
    obtain ⟨xs, o, ho, hc, _⟩ := hh _ i
    exact ⟨o, ho, hc⟩
  -- the child
  refine sx_expr (P := fun v n6 => ∃ x dx T Sf X6, Inv prog w { D3.setS D3.cs ⟨x, dx, ⟨y, T, 0, y.length, some (D.s k).x, Sf, (D.s k).f.env⟩, [], lz⟩ with cs := D3.cs + 1 } (OnX n6 X6) ∧ mz ∉ X6 ∧ (mz, om) ∈ n6) (tr_Method (pu_local (P := (· = .ref D.SL)) rfl rfl) fun ov q => ?_) fun u n6 q => ?_
  · subst q
    obtain ⟨cc, hSL⟩ := inv_sl I3
    have hSLm := (onx_mem.mp hSL).1
    have hSLX := (onx_mem.mp hSL).2
    rw [eSL] at hSLm hSLX
    have hdcS : Kno g n3 (fun h => ∃ o, h.get? D.SL = some o ∧ o.dict = none) := fun h _ q => ⟨_, q _ hSLm, rfl⟩
    have htyS : Kno g n3 (fun h => ∀ s : Shared, s.heap = h → s.TypeIs (.ref D.SL) "list") := fun h _ q s e => by subst e; exact ⟨_, q _ hSLm, rfl⟩
    refine ⟨_, _, pu_getB (T := "list") htyS PySem.F.plainAttrs_list PySem.F.slot_list_append PySem.F.type_list_append (fun a e => by cases e; exact hdcS),
      tr_callWithB (Pargs := fun us n5 => ∃ x dx T Sf od oS oT, us = [.ref x] ∧ IsBS ⟨y, T, 0, y.length, some (D.s k).x, Sf, (D.s k).f.env⟩ od ∧ IsSet w lz oS ∧ (x, instObj 117 dx) ∈ n5 ∧ (dx, od) ∈ n5 ∧ (T, oT) ∈ n5 ∧ oT = listOf #[] 0 ∧ (Sf, oS) ∈ n5 ∧ New n3 x ∧ New n3 dx ∧ New n3 T ∧ New n3 Sf ∧ ∀ p ∈ n3, p ∈ n5) (fun a e => by cases e)
        (tr_args (P := fun v n5 => ∃ x dx T Sf od oS oT, v = .ref x ∧ IsBS ⟨y, T, 0, y.length, some (D.s k).x, Sf, (D.s k).f.env⟩ od ∧ IsSet w lz oS ∧ (x, instObj 117 dx) ∈ n5 ∧ (dx, od) ∈ n5 ∧ (T, oT) ∈ n5 ∧ oT = listOf #[] 0 ∧ (Sf, oS) ∈ n5 ∧ New n3 x ∧ New n3 dx ∧ New n3 T ∧ New n3 Sf ∧ ∀ p ∈ n3, p ∈ n5)
          (tr_Method (pu_local (P := (· = .ref (D.s k).x)) rfl rfl) fun ov q => ?_) fun v n5 q => ?_) fun us n5 q => ?_⟩
    · subst q
      have hbs3 : ∀ {n'}, (∀ p ∈ n3, p ∈ n') → Kno g n' (fun h => BSAt h (D.s k).x (D.s k).f) := fun hs => (I3.full.mono hs).kno.imp fun h i => by have := rd_bs i hkc3; rw [es] at this; exact this
      refine ⟨_, _, pu_meth hB (hbs3 fun p h => h) (m_child_state w) (fn_child_state w) (by intros; rfl), tr_callWith (Pargs := fun us n5 => ∃ lzo, us = [tv, optRef (lzo.map (·.1))] ∧ LzOk w n3 lz lzo n5) hB (kp_child_state w)
        (tr_args (P := fun v n' => n' = n3 ∧ v = tv) (pu_local rfl rfl) fun v n5 q => ?_) fun us n5 q => ?_⟩
      · obtain ⟨e1, rfl⟩ := q
        subst n5
        refine tr_args (P := fun v n5 => ∃ lzo : Option (Addr × List Int), v = optRef (lzo.map (·.1)) ∧ LzOk w n3 lz lzo n5) ?_ fun v n5 q => ?_
        · obtain ⟨vs, c, hI, rfl⟩ := hol
          have hlI : Kno g n3 (fun h => h.IsList mz vs.toArray) := fun h _ q => ⟨_, q _ hmm, rfl, _, rfl⟩
          have hvl := hI.length
          by_cases hle : lz = []
          · subst hle
            obtain rfl : vs = [] := by simpa using hvl
            refine Tr.mono (pu_IfF (pu_test (pu_local (P := (· = .ref mz)) rfl rfl) fun v e => by subst e; exact t_list hlI (by decide)) pu_none) fun v n' q => ?_
            obtain ⟨rfl, rfl⟩ := q
            exact ⟨none, rfl, .inl ⟨rfl, rfl, rfl⟩⟩
          · have hz2 : lz.length ≤ 2 := by rcases hlz with h | h | h <;> rw [h] <;> decide
            have hz3 : vs.length ≤ 3 := by omega
            refine Tr.mono (pu_IfT (pu_test (pu_local (P := (· = .ref mz)) rfl rfl) fun v e => by
                subst e; exact (t_list hlI (by simp; omega)).mono fun b e => by
                  rw [e]; simp; intro e2; rw [e2] at hvl; exact hle (List.length_eq_zero_iff.mp hvl.symm))
              (tr_Call (pu_B hB (b_set w) rfl (by decide) rfl) (tr_callWithB (fun a e => by cases e) (pu_args (pu_local (P := (· = .ref mz)) rfl rfl) pu_args0) fun us n5 q => ?_))) fun v n' q => q
            obtain ⟨rfl, v, r, rfl, rfl, rfl⟩ := q
            refine Tr.mono (tr_newSet hR.hd hB hlI hI (hlz.resolve_left hle)) fun v n' q => ?_
            obtain ⟨a, o, rfl, hn, hS, rfl⟩ := q
            exact ⟨some (a, lz), rfl, .inr ⟨a, o, rfl, hle, hn, hS, rfl⟩⟩
        · obtain ⟨lzo, rfl, hok⟩ := q
          exact Tr.mono pu_args0 fun r n' q => by obtain ⟨rfl, rfl⟩ := q; exact ⟨lzo, rfl, hok⟩
      · obtain ⟨lzo, rfl, hok⟩ := q
        have hs35 : ∀ p ∈ n3, p ∈ n5 := by
          rcases hok with ⟨_, _, rfl⟩ | ⟨_, _, _, _, _, _, rfl⟩
          · exact fun p h => h
          · exact fun p h => .tail _ h
        refine Tr.mono (tr_call (s_child (p := (D.s k).x) (fp := (D.s k).f) (lz := lzo) hyv (by omega)) (hR.le (by decide)) hB (fun p hp => nomatch hp) ((Kno.mono (hbs3 hs35) fun p hp => by rw [List.map_nil, drop_nil]; exact hp).and ?_)) fun v N' q => ?_
        · rcases hok with ⟨rfl, _, rfl⟩ | ⟨S0, oS, rfl, hle, hn, hS, rfl⟩
          · exact fun h _ _ => trivial
          · exact fun h _ q => ⟨hle, oS, q _ (by rw [List.map_nil, drop_nil]; exact .head _), hS⟩
        · obtain ⟨n', ⟨x, dx, T, S, od, oS, rfl, hbs, hS, m1, m2, m3, m4, e1, e2, e3, e4, hne⟩, rfl, hfr⟩ := q
          rw [List.map_nil, drop_nil]
          have fr : ∀ p ∈ n', p.1 ∉ n3.map (·.1) := fun p hp hm => by
            rcases hfr p hp with h | h
            · cases h
            · obtain ⟨q, hq, e⟩ := List.mem_map.mp hm
              exact h (by rw [← e]; exact List.mem_map_of_mem (f := Prod.fst) (hs35 q hq))
          rcases hok with ⟨rfl, rfl, rfl⟩ | ⟨S0, oS0, rfl, hle, hn, hS0, rfl⟩
          · exact ⟨x, dx, T, S, od, oS, _, rfl, hbs, hS, List.mem_append_left _ m1, List.mem_append_left _ m2, List.mem_append_left _ m3, rfl, List.mem_append_left _ m4, ⟨fr _ m1, e1⟩, ⟨fr _ m2, e2⟩, ⟨fr _ m3, e3⟩, ⟨fr _ m4, e4⟩, fun p hp => List.mem_append_right _ hp⟩
          · exact ⟨x, dx, T, S0, od, oS0, _, rfl, hbs, hS0, List.mem_append_left _ m1, List.mem_append_left _ m2, List.mem_append_left _ m3, rfl, List.mem_append_right _ (.head _), ⟨fr _ m1, e1⟩, ⟨fr _ m2, e2⟩, ⟨fr _ m3, e3⟩, hn, fun p hp => List.mem_append_right _ (.tail _ hp)⟩
    · obtain ⟨x, dx, T, Sf, od, oS, oT, rfl, r⟩ := q
      exact Tr.mono pu_args0 fun us n' q => by obtain ⟨rfl, rfl⟩ := q; exact ⟨x, dx, T, Sf, od, oS, oT, rfl, r⟩
    · obtain ⟨x, dx, T, Sf, od, oS, oT, rfl, hbs, hS, m1, m2, m3, rfl, m4, nx, ndx, nT, nS, hs35⟩ := q
      refine tr_fun fun hf => ?_
      have c1 : x ≠ dx := ne_cls hf m1 m2 (by rw [hbs.cls]; show Value.ref 117 ≠ Value.type "dict"; decide)
      have c2 : x ≠ T := ne_cls hf m1 m3 (by show Value.ref 117 ≠ Value.type "list"; decide)
      have c3 : x ≠ Sf := ne_cls hf m1 m4 (by rw [hS.cls]; show Value.ref 117 ≠ Value.type "set"; decide)
      have c4 : dx ≠ T := ne_cls hf m2 m3 (by rw [hbs.cls]; decide)
      have c5 : dx ≠ Sf := ne_cls hf m2 m4 (by rw [hbs.cls, hS.cls]; decide)
      have c6' : T ≠ Sf := ne_cls hf m3 m4 (by rw [hS.cls]; decide)
      have hnS : ∀ {a : Addr}, New n3 a → a ≠ D.SL := fun hn e => hn.1 (by rw [e]; exact List.mem_map_of_mem (f := Prod.fst) hSLm)
      refine tr_append (hs35 _ hSLm) (by rw [sizeLine_eq]; simp; omega) ?_
      refine ⟨x, dx, T, Sf, x :: dx :: T :: Sf :: X', ?_, ?_, mem_put (hs35 _ hmm) fun e => hmX' (by rw [show mz = _ from e]; exact hSLX)⟩
      · have kp : Kp (OnX n3 X') (OnX (put n5 D.SL (listOf ((((List.range D3.cs).map fun j => (D3.s j).x).map Value.ref).toArray.push (.ref x)) (cc + 1))) (x :: dx :: T :: Sf :: X')) D3.SL := by
          rw [eSL]
          exact fun p hp hne => onx_mem.mpr ⟨mem_put (hs35 _ (onx_mem.mp hp).1) hne, .tail _ (.tail _ (.tail _ (.tail _ (onx_mem.mp hp).2)))⟩
        refine inv_snew (N := ⟨x, dx, ⟨y, T, 0, y.length, some (D.s k).x, Sf, (D.s k).f.env⟩, [], lz⟩) I3 (onx_new (fun h => nx.1 (hXN _ h)) nx.2) (onx_new (fun h => ndx.1 (hXN _ h)) ndx.2) (onx_new (fun h => nT.1 (hXN _ h)) nT.2) (onx_new (fun h => nS.1 (hXN _ h)) nS.2) c1 c2 c3 c4 c5 c6'
          (onx_mem.mpr ⟨mem_put m1 (hnS nx), .head _⟩) (onx_mem.mpr ⟨mem_put m2 (hnS ndx), .tail _ (.head _)⟩) hbs (onx_mem.mpr ⟨mem_put m3 (hnS nT), .tail _ (.tail _ (.head _))⟩) ⟨0, rfl⟩ (onx_mem.mpr ⟨mem_put m4 (hnS nS), .tail _ (.tail _ (.tail _ (.head _)))⟩) hS rfl
          (onx_mem.mpr ⟨by rw [eSL]; exact put_self _ _ _, by rw [eSL]; exact .tail _ (.tail _ (.tail _ (.tail _ hSLX)))⟩) ⟨cc + 1, by simp⟩ kp
      · intro h
        simp only [List.mem_cons] at h
        rcases h with h | h | h | h | h
        · exact nx.1 (h ▸ hmm')
        · exact ndx.1 (h ▸ hmm')
        · exact nT.1 (h ▸ hmm')
        · exact nS.1 (h ▸ hmm')
        · exact hmX' h
  obtain ⟨x, dx, T, Sf, X6, I6, hmX6, hmm6⟩ := q
  obtain ⟨NS, hNS⟩ : ∃ NS : SN, NS = ⟨x, dx, ⟨y, T, 0, y.length, some (D.s k).x, Sf, (D.s k).f.env⟩, [], lz⟩ := ⟨_, rfl⟩
  rw [← hNS] at I6
  obtain ⟨D4, hD4⟩ : ∃ D4, D4 = { D3.setS D3.cs NS with cs := D3.cs + 1 } := ⟨_, rfl⟩
  rw [← hD4] at I6
  have em4 : D4.m = D.m := by rw [hD4]; exact em
  have ecm4 : D4.cm = D.cm := by rw [hD4]; exact ecm
  have eML4 : D4.ML = D.ML := by rw [hD4]; exact eML
  have hkm4 : k < D4.cm := by rw [ecm4]; exact hkm
  obtain ⟨cc, hML⟩ := inv_ml I6
  have hMLm := (onx_mem.mp hML).1
  have hMLX := (onx_mem.mp hML).2
  have hmm6' : mz ∈ n6.map (·.1) := List.mem_map_of_mem (f := Prod.fst) hmm6
  obtain ⟨X7, hX76, hX7N, eX7⟩ := onx_trim n6 X6
  rw [← eX7] at I6
  have hmX7 : mz ∉ X7 := fun h => hmX6 (hX76 _ h)
  have hMLX : D4.ML ∈ X7 := by
    obtain ⟨cc', h⟩ := inv_ml I6
    exact (onx_mem.mp h).2
  obtain ⟨NM, hNMd⟩ : ∃ NM : Addr → Addr → MN, NM = fun md mt => ⟨md, mt, mz, y, y.length, 0, some k, (D.m k).ev, (D.m k).env, [], lz⟩ := ⟨_, rfl⟩
  refine sx_expr (P := fun v n8 => ∃ md mt, Inv prog w { D4.setM D4.cm (NM md mt) with cm := D4.cm + 1 } n8) (tr_Method (pu_local (P := (· = .ref D.ML)) rfl rfl) fun ov q => ?_) fun u n8 q => sx_retPu pu_bool fun v e => ?_
  · subst q
    have hMLm' : (D.ML, listOf (((List.range D4.cm).map fun j => (D4.m j).md).map Value.ref).toArray cc) ∈ n6 := by rw [← eML4]; exact hMLm
    refine ⟨_, _, pu_getB (T := "list") (fun h _ q s e => by subst e; exact ⟨_, q _ hMLm', rfl⟩) PySem.F.plainAttrs_list PySem.F.slot_list_append PySem.F.type_list_append (fun a e => by cases e; exact fun h _ q => ⟨_, q _ hMLm', rfl⟩),
      tr_callWithB (Pargs := fun us n7 => ∃ md mt o, us = [.ref md] ∧ (md, o) ∈ n7 ∧ IsMD prog w y y.length mt 0 mz (some k) (D.m k).env o ∧ (mt, listOf #[] 0) ∈ n7 ∧ New n6 md ∧ New n6 mt ∧ ∀ p ∈ n6, p ∈ n7) (fun a e => by cases e)
        (tr_args (P := fun v n7 => ∃ md mt o, v = .ref md ∧ (md, o) ∈ n7 ∧ IsMD prog w y y.length mt 0 mz (some k) (D.m k).env o ∧ (mt, listOf #[] 0) ∈ n7 ∧ New n6 md ∧ New n6 mt ∧ ∀ p ∈ n6, p ∈ n7)
          (tr_Call (pu_K hB (g_law_made w) rfl) (tr_callWith hB (k_law_made w) (pu_args (pu_local rfl hyv) (pu_args (P := IsPar (some k)) (pu_local rfl (by obtain ⟨t, rfl⟩ := hk; exact ⟨t, rfl⟩)) (pu_args (pu_local (P := (· = .ref mz)) rfl rfl) (pu_args (P := (· = .ref (D.m k).env)) (pu_mkey (D := D4) (k := k) I6.full.kno hkm4 (fun t1 t2 t3 t4 => ⟨_, rfl, by rw [em4]⟩) (pu_local rfl (by rw [em4])) pu_str) pu_args0)))) fun us n7 q => ?_)) fun v n7 q => ?_) fun us n7 q => ?_⟩
    · obtain ⟨rfl, v1, r1, rfl, hv1, v2, r2, rfl, hv2, v3, r3, rfl, rfl, v4, r4, rfl, rfl, rfl⟩ := q
      refine Tr.mono (tr_call (s_made (mz := mz) (ev := (D.m k).env) hv1 hv2 (by omega)) (hR.le (by decide)) hB (fun p hp => nomatch hp) (fun _ _ _ => trivial)) fun v N' q => ?_
      obtain ⟨n', ⟨md, mt, o, rfl, m1, hmd, m2, e1, e2⟩, rfl, hfr⟩ := q
      rw [List.map_nil, drop_nil]
      have fr : ∀ p ∈ n', p.1 ∉ n7.map (·.1) := fun p hp => (hfr p hp).resolve_left (fun h => nomatch h)
      exact ⟨md, mt, o, rfl, List.mem_append_left _ m1, hmd, List.mem_append_left _ m2, ⟨fr _ m1, e1⟩, ⟨fr _ m2, e2⟩, fun p hp => List.mem_append_right _ hp⟩
    · obtain ⟨md, mt, o, rfl, r⟩ := q
      exact Tr.mono pu_args0 fun us n' q => by obtain ⟨rfl, rfl⟩ := q; exact ⟨md, mt, o, rfl, r⟩
    · obtain ⟨md, mt, o, rfl, m1, hmd, m2, nmd, nmt, hs67⟩ := q
      refine tr_fun fun hf => ?_
      have c1 : md ≠ mt := ne_cls hf m1 m2 (by
        obtain ⟨t1, t2, t3, t4, hd⟩ := hmd
        obtain ⟨_, _, hc, _⟩ := hd
        replace hc : o.cls = .type "dict" := hc.1
        rw [hc]; decide)
      have c2 : md ≠ mz := fun e => nmd.1 (e ▸ hmm6')
      have c3 : mt ≠ mz := fun e => nmt.1 (e ▸ hmm6')
      have hnM : ∀ {a : Addr}, New n6 a → a ≠ D.ML := fun hn e => hn.1 (by rw [e]; exact List.mem_map_of_mem (f := Prod.fst) hMLm')
      refine tr_append (hs67 _ hMLm') (by rw [sizeLine_eq]; simp; omega) ⟨md, mt, ?_⟩
      have hzM : mz ≠ D.ML := fun e => hmX7 (by rw [e, ← eML4]; exact hMLX)
      refine inv_mnew2 (N := NM md mt) (od := o) (oT := listOf #[] 0) (oS := om) I6 (by rw [hNMd]; exact onx_new (fun h => nmd.1 (hX7N _ h)) nmd.2) (by rw [hNMd]; exact onx_new (fun h => nmt.1 (hX7N _ h)) nmt.2) (by rw [hNMd]; exact onx_new hmX7 hms) (by rw [hNMd]; exact c1) (by rw [hNMd]; exact c2) (by rw [hNMd]; exact c3)
        (by rw [hNMd]; exact mem_put m1 (hnM nmd)) (by rw [hNMd]; exact hmd) (by rw [hNMd]; exact mem_put m2 (hnM nmt)) ⟨0, rfl⟩ (by rw [hNMd]; exact mem_put (hs67 _ hmm6) hzM) (by rw [hNMd]; exact hol) (by rw [hNMd]) (by rw [eML4]; exact put_self _ _ _) ⟨cc + 1, by rw [hNMd]; simp⟩ (by
          rw [eML4]
          exact fun p hp hne => mem_put (hs67 _ (onx_mem.mp hp).1) hne)
  obtain ⟨md, mt, I8⟩ := q
  have ecs3 : D3.cs = D3.cm := by rw [ecs, ecm, G.cm]
  have G3' := G3.more (Nat.le_succ b) (show pl + 3 ≤ pl + 5 by omega)
  have hs5 : ∀ j, ({ D4.setM D4.cm (NM md mt) with cm := D4.cm + 1 } : DD).s j = if j = D.cs then NS else D.s j := fun j => by
    rw [hD4]
    show (if j = D3.cs then NS else D3.s j) = _
    rw [ecs, es]
  have hm5 : ∀ j, ({ D4.setM D4.cm (NM md mt) with cm := D4.cm + 1 } : DD).m j = if j = D.cs then NM md mt else D.m j := fun j => by
    show (if j = D4.cm then NM md mt else D4.m j) = _
    rw [ecm4, G.cm, em4]
  have he5 : ({ D4.setM D4.cm (NM md mt) with cm := D4.cm + 1 } : DD).e = D.e := by
    rw [hD4]; exact ee
  have hc5 : ({ D4.setM D4.cm (NM md mt) with cm := D4.cm + 1 } : DD).cs = D.cs + 1 := by
    rw [hD4]; show D3.cs + 1 = _; rw [ecs]
  have hcm5 : ({ D4.setM D4.cm (NM md mt) with cm := D4.cm + 1 } : DD).cm = D.cs + 1 := by
    show D4.cm + 1 = _; rw [ecm4, G.cm]
  have c2 := G.c2
  have hnlk := G.nl k hkc
  refine ⟨e, _, I8, ⟨by rw [hc5]; omega, by rw [hc5]; omega, by rw [hcm5, hc5], ?_, ?_, ?_, ?_, fun j hj => ?_, fun j hj => ?_, fun e => by rw [he5]; exact ((G.more (Nat.le_succ b) (Nat.le_refl _)).ea e), ?_, ?_⟩, ⟨?_, ?_, ?_, ?_, by rw [hc5]; omega⟩⟩
  · rw [hD4]; exact G3'.pl0
  · rw [hD4]; exact G3'.pl1
  · rw [hD4]; exact G3'.m0
  · rw [hD4]; exact G3'.m1
  · rw [hs5, hm5]
    rw [hc5] at hj
    by_cases h : j = D.cs
    · rw [if_pos h, if_pos h, hNS, hNMd]
      exact { src := rfl, mem := hy, sl := rfl, ml := rfl, cur := rfl, c0 := Int.le_refl _, c1 := (by show (0 : Int) < 13; decide), ts := rfl, tl := Nat.zero_le _, tx := (fun t ht => nomatch ht), lz := rfl, lk := hlz }
    · rw [if_neg h, if_neg h]
      exact (G.more (Nat.le_succ b) (Nat.le_refl _)).na j (by omega)
  · rw [hc5] at hj
    by_cases h : j = D.cs
    · refine ⟨?_, ?_, fun q => ?_, fun p q => ?_⟩
      · rw [hs5, hm5, he5, if_pos h, if_pos h, hNS, hNMd]; exact hnlk.se
      · rw [hm5, he5, if_pos h, hNMd]; exact hnlk.me
      · rw [hm5, if_pos h, hNMd] at q; cases q
      · rw [hm5, if_pos h, hNMd] at q
        cases q
        refine ⟨by omega, ?_, ?_⟩
        · rw [hs5, hs5, if_pos h, if_neg (by omega), hNS]
        · rw [hm5, hm5, if_pos h, if_neg (by omega), hNMd]
    · have L := G.nl j (by omega)
      refine ⟨?_, ?_, fun q => ?_, fun p q => ?_⟩
      · rw [hs5, hm5, he5, if_neg h, if_neg h]; exact L.se
      · rw [hm5, he5, if_neg h]; exact L.me
      · rw [hm5, if_neg h] at q; rw [hs5, if_neg h]; exact L.p0 q
      · rw [hm5, if_neg h] at q
        obtain ⟨a1, a2, a3⟩ := L.p1 p q
        refine ⟨a1, ?_, ?_⟩
        · rw [hs5, hs5, if_neg h, if_neg (by omega)]; exact a2
        · rw [hm5, hm5, if_neg h, if_neg (by omega)]; exact a3
  · rw [hm5, if_neg (by omega)]; exact G.e0
  · rw [hm5, if_neg (by omega)]; exact G.e1
  · rw [hD4]; exact eB
  · rw [hD4]; exact eSL
  · rw [hD4]; exact eML
  · rw [hD4]; exact esc
end
end Mine
namespace Mine
theorem boot_range : bootBuiltins "range" = some (.type "range") := rfl
abbrev itObj (i N : Nat) : Obj := { cls := .type "range_iterator", data := .fields #[rawInt (i : Int), rawInt ((N : Int) - i), rawInt 1] }
section
variable {prog : Program} {w : World} {A : Around} {g : Heap} {L : Addr} {m : Str → Option Value} {n : Led} {cn : Str} {cs : Scope} {a : Addr} {ccd : Value}
theorem sx_forRange {x : Str} {px rp rpos pf : Pos} {e : Expr} {body rest : List Stmt} {R : Flow → (Str → Option Value) → Led → Prop} {P0 : Nat → Led → Prop} (inv : Nat → Nat → Addr → (Str → Option Value) → Led → Prop) (B : Bas w g) (hh : A.handled = none)
    (he : Tr prog w A g L m n (eval e (envOf cn cs L a ccd)) (fun v n1 => ∃ N : Nat, IsI N v ∧ N ≤ 1000 ∧ P0 N n1))
    (h0 : ∀ N n1 I, P0 N n1 → New n1 I → inv N 0 I m ((I, itObj 0 N) :: n1))
    (hput : ∀ N i I m n o', inv N i I m n → inv N i I m (put n I o'))
    (turn : ∀ (N i : Nat) (I : Addr) (m : Str → Option Value) (n : Led) (v : Value), i < N → IsI (i : Int) v → (I, itObj (i + 1) N) ∈ n → inv N i I m n → Sx prog w A g L (upd m x v) n (execs body (envOf cn cs L a ccd)) (fun fl m' n' => match fl with
      | .next => (I, itObj (i + 1) N) ∈ n' ∧ inv N (i + 1) I m' n' | .cont => (I, itObj (i + 1) N) ∈ n' ∧ inv N (i + 1) I m' n' | .brk => False | .ret v => R (.ret v) m' n'))
    (done : ∀ N I m n, inv N N I m n → Sx prog w A g L m (drop n [I]) (execs rest (envOf cn cs L a ccd)) R)
    (hk : cs.kind = .function := by rfl) (hx : (envOf cn cs L a ccd).kindOf (Str.ofString "range") = some .globalImplicit := by rfl) (hl : (envOf cn cs L a ccd).kindOf x = some .local := by rfl)
    (hcall : eval (.Call (.Name (Str.ofString "range") rp) [e] [] rpos) (envOf cn cs L a ccd) = (do callWith rpos (← eval (.Name (Str.ofString "range") rp) (envOf cn cs L a ccd)) [] (backTo rpos (starEach [e] (envOf cn cs L a ccd))) (backToKw rpos (keywordEach [] (envOf cn cs L a ccd)))) := by rfl)
    (hs1 : starEach [e] (envOf cn cs L a ccd) = (false, eval e (envOf cn cs L a ccd)) :: starEach [] (envOf cn cs L a ccd) := by rfl)
    (hfs : ∀ y, foldedSetIterable (.Call (.Name (Str.ofString "range") rp) [e] [] rpos) (envOf cn cs L a ccd) y = pure y := by intro _; rfl) :
    Sx prog w A g L m n (execs (.For (.Name x px) (.Call (.Name (Str.ofString "range") rp) [e] [] rpos) body [] pf :: rest) (envOf cn cs L a ccd)) R := by
  have hr : Tr prog w A g L m n (eval (.Call (.Name (Str.ofString "range") rp) [e] [] rpos) (envOf cn cs L a ccd)) (fun v n1 => ∃ (r : Addr) (N : Nat) (n0 : Led) (t1 t2 t3 : Tok), v = .ref r ∧ N ≤ 1000 ∧ P0 N n0 ∧ n1 = (r, { cls := .type "range", data := .fields #[.int 0 t1, .int N t2, .int 1 t3] }) :: n0) :=
    tr_Call (pu_B B (b_range w) boot_range (by decide) rfl hk hx rfl) (tr_callWithB (fun a e => by cases e) (tr_args (Ps := fun us n1 => ∃ v, us = [v] ∧ ∃ N : Nat, IsI N v ∧ N ≤ 1000 ∧ P0 N n1) he (fun v n1 q => Tr.mono pu_args0 fun us n' z => by obtain ⟨rfl, rfl⟩ := z; exact ⟨v, rfl, q⟩) hs1) (fun us n1 q => by
      obtain ⟨v, rfl, N, ⟨t, rfl⟩, hN, hP⟩ := q
      exact ⟨fun s Q E F NN k => call_range_1 (k _ _ _ _ ⟨_, N, n1, _, _, _, rfl, hN, hP, rfl⟩ (F.push _) (NN.push F _))⟩) hs1 rfl) hcall
  refine sx_cons ⟨fun s Q E F NN k => wpAny_For (hr.go s _ E F NN fun v h1 tk1 n1 q F1 N1 => ?_) hfs⟩
  obtain ⟨r, N, n0, t1, t2, t3, rfl, hN, hP, rfl⟩ := q
  have hrange : IsRange h1 r 0 N 1 t1 t2 t3 := (N1 _ (.head _)).1
  refine wpAny_pyIter_range (s := { s with heap := h1, toks := tk1 }) hrange (small_one (by decide) (by decide) (by omega) (by omega)) ?_
  have hsz : Builtin.Range.rangeSize 0 N 1 = (N : Int) := by rw [rangeSize_one]; split <;> omega
  rw [hsz]
  have hI : New n0 h1.objs.size := New.of_lt B F1 fun p hp => N1 p (.tail _ hp)
  have F2 := F1.push { cls := .type "range_iterator", data := .fields #[rawInt 0, rawInt (N : Int), rawInt 1] }
  have N2 : News g L (h1.push { cls := .type "range_iterator", data := .fields #[rawInt 0, rawInt (N : Int), rawInt 1] }) ((h1.objs.size, itObj 0 N) :: n0) := by
    have := N1.push F1 { cls := .type "range_iterator", data := .fields #[rawInt 0, rawInt (N : Int), rawInt 1] }
    intro p hp
    rcases List.mem_cons.mp hp with rfl | hp
    · have e : itObj 0 N = { cls := .type "range_iterator", data := .fields #[rawInt 0, rawInt (N : Int), rawInt 1] } := by simp [itObj]
      rw [e]; exact this _ (.head _)
    · exact this p (.tail _ (.tail _ hp))
  generalize h1.objs.size = I at hI N2 ⊢
  refine codeAny_forLoop (fun kk s' => ∃ i m' n' h tk, s' = { s with heap := h, toks := tk } ∧ Fr g L h m' ∧ News g L h n' ∧ (I, itObj i N) ∈ n' ∧ inv N i I m' n' ∧ i ≤ N ∧ kk = N + 1 - i) ?_ (N + 1)
    ⟨0, m, _, _, tk1, rfl, F2, N2, .head _, h0 N n0 I hP hI, Nat.zero_le _, rfl⟩
  rintro kk s' ⟨i, m', n', h, tk, rfl, F', N', hm, hinv, hi, rfl⟩
  have hit : IsRangeIter h I (i : Int) ((N : Int) - i) 1 := (N' _ hm).1
  by_cases hlt : i < N
  · refine wpAny_pyNext_range_item (s := { s with heap := h, toks := tk }) hit (by omega) fun h2 hit2 hs2 => ?_
    have F3 := F'.change hs2 (N' _ hm).2.1 (N' _ hm).2.2
    have hit2' : h2.get? I = some (itObj (i + 1) N) := by
      have e1 : (N : Int) - ((i + 1 : Nat) : Int) = (N : Int) - i - 1 := by omega
      show h2.get? I = some { cls := .type "range_iterator", data := .fields #[rawInt ((i + 1 : Nat) : Int), rawInt ((N : Int) - ((i + 1 : Nat) : Int)), rawInt 1] }
      rw [e1]; exact hit2
    have N3 : News g L h2 (put n' I (itObj (i + 1) N)) := fun p hp => by
      rcases List.mem_cons.mp hp with rfl | hp
      · exact ⟨hit2', (N' _ hm).2⟩
      · have z := N' p (List.mem_filter.mp hp).1
        exact ⟨(hs2.2 _ (put_off _ _ p hp)).trans z.1, z.2⟩
    refine wpAny_assign_Name (stN F3 N3 (fun h4 F4 N4 => ?_) hk hl)
    refine (turn N i I m' _ _ hlt ⟨_, rfl⟩ (put_self _ _ _) (hput N i I m' n' _ hinv)).go _ _ _ F4 N4 fun fl h5 tk5 m5 n5 q F5 N5 => ?_
    cases fl with
    | next => exact ⟨N + 1 - (i + 1), by omega, i + 1, m5, n5, h5, tk5, rfl, F5, N5, q.1, q.2, hlt, rfl⟩
    | cont => exact ⟨N + 1 - (i + 1), by omega, i + 1, m5, n5, h5, tk5, rfl, F5, N5, q.1, q.2, hlt, rfl⟩
    | brk => exact q.elim
    | ret v => exact k (.ret v) h5 tk5 m5 n5 q F5 N5
  · obtain rfl : i = N := by omega
    refine wpAny_pyNext_range_end (s := { s with heap := h, toks := tk }) hh hit (by omega) fun h2 he2 => wpAny_execs_nil ?_
    have z := N' _ hm
    have F3 : Fr g L h2 m' := by
      obtain ⟨oL, es, ep, hL, hr⟩ := F'.ns
      exact ⟨⟨oL, es, ep, he2 _ _ (Ne.symm z.2.1) hL, hr⟩, fun b o e => he2 _ _ (fun eb => by subst eb; rw [z.2.2] at e; cases e) (F'.keep b o e), F'.above⟩
    exact k .next h2 tk m' (drop n' [I]) (done i I m' n' hinv) F3 fun p hp => by
      obtain ⟨hp1, hp2⟩ := of_drop hp
      exact ⟨he2 _ _ (by simpa using hp2) (N' p hp1).1, (N' p hp1).2⟩
end
end Mine
namespace Mine
section
variable {prog : Program} {w : World} {A : Around} {g : Heap} {L : Addr} {m : Str → Option Value} {n n' : Led} {cn : Str} {cs : Scope} {a : Addr} {ccd : Value} {pos p p1 p2 p3 : Pos} {e1 e2 e3 e4 : Expr} {env : Env} {script : Addr} {cl : List (Addr × Cell)}
theorem tr_withFun {α : Type} {t : Sem α} {P : α → Led → Prop} (h : Tr prog w A g L m n t P) : Tr prog w A g L m n t (fun v n' => P v n' ∧ Fun n') :=
  ⟨fun s Q E F N k => h.go s Q E F N fun v h' tk n' q F' N' => k v h' tk n' ⟨q, fun a o o' h1 h2 => Option.some.inj ((N' _ h1).1.symm.trans (N' _ h2).1)⟩ F' N'⟩
theorem SatL.off (S : SatL prog w script cl n) {x : Addr} (hx : x ∉ n.map (·.1)) : x ∉ cl.map (·.1) := fun hm => by
  obtain ⟨d, hd, e⟩ := List.mem_map.mp hm
  obtain ⟨_, ob, h2, _⟩ := S.at_ d hd
  exact hx (by rw [← e]; exact List.mem_map_of_mem (f := Prod.fst) h2)
theorem SatL.adds {nw : List (Addr × Cell)} (S : SatL prog w script cl n) (hn : ∀ q ∈ nw, New n q.1) (hd : (nw.map (·.1)).Nodup) (hm : ∀ q ∈ nw, ∃ o, (q.1, o) ∈ n' ∧ q.2.holds prog w script o) (hs : ∀ q ∈ n, q ∈ n') : SatL prog w script (nw ++ cl) n' := by
  refine ⟨fun d hd => ?_, ?_⟩
  · rcases List.mem_append.mp hd with h | h
    · obtain ⟨o, h1, h2⟩ := hm d h
      exact ⟨(hn d h).2, o, h1, h2⟩
    · obtain ⟨h1, ob, h2, h3⟩ := S.at_ d h
      exact ⟨h1, ob, hs _ h2, h3⟩
  · rw [List.map_append, List.nodup_append]
    refine ⟨hd, S.nd, fun x hx y hy e => ?_⟩
    subst e
    obtain ⟨q, hq, rfl⟩ := List.mem_map.mp hx
    exact S.off (hn q hq).1 hy
/-- {'ref_links': {}} -/
theorem tr_envDict {b : Bool} (hB : Bas w g) (S : SatL prog w script cl n) :
    Tr prog w A g L m n (eval (.Dict [some (.Constant (.str (Str.ofString "ref_links")) 0 p1)] [.Dict [] [] p2] pos) env) (fun v n' => ∃ e l, v = .ref e ∧ SatL prog w script ([(e, .menv b l), (l, .mlk b [])] ++ cl) n') := by
  refine tr_Dict hB (hlen := by simp) (h := fun d o hn ho => ?_)
  refine tr_pairs (Pv := fun v n' => ∃ l ol, v = .ref l ∧ New ((d, o) :: n) l ∧ ol.IsDictOf (strKind prog w) [] ∧ n' = (l, ol) :: (d, o) :: n) pu_str (tr_Dict0 hB fun l ol hn2 ho2 => ⟨l, ol, rfl, hn2, ho2, rfl⟩) fun kv v n1 hk q => ?_
  obtain ⟨l, ol, rfl, hn2, ho2, rfl⟩ := q
  obtain ⟨u1, rfl⟩ := hk
  have hld : l ≠ d := fun e => hn2.1 (by rw [e]; exact .head _)
  refine tr_pairs0 ⟨.tail _ (.head _), rfl, (show [sLinks].Nodup from by decide +kernel), fun o' ho' => ⟨d, l, rfl, S.adds (fun q hq => ?_) (by simp [hld.symm]) (fun q hq => ?_) fun q hq => mem_put (.tail _ (.tail _ hq)) fun e => hn.1 (by rw [← e]; exact List.mem_map_of_mem (f := Prod.fst) hq)⟩⟩
  · simp only [List.mem_cons, List.not_mem_nil, or_false] at hq
    rcases hq with rfl | rfl
    · exact hn
    · exact hn2.lt fun p hp => .tail _ hp
  · simp only [List.mem_cons, List.not_mem_nil, or_false] at hq
    rcases hq with rfl | rfl
    · exact ⟨o', put_self _ _ _, ho'⟩
    · exact ⟨ol, mem_put (.head _) hld, [], .nil, ho2⟩
theorem bs_len {f : BS} {o : Obj} {kvs : List (Str × Value)} (hb : IsBS f o) (hd : o.IsDictOf (strKind prog w) kvs) : kvs.length = 8 := by
  obtain ⟨_, _, _, _, _, _, _, _, _, _, _, _, _, _, _, _, _, _, _, _, rfl⟩ := hb
  obtain ⟨es, ep, _, hda, _, hp, _⟩ := hd
  have := hp.length
  rw [← this]
  cases hda
  rfl
/-- BlockState() at the law's start -/
theorem tr_newState {k : Nat} {b : Bool} (hB : Bas w g) (hR : Room A 12) (S : SatL prog w script cl n)
    (hk : cs.kind = .function := by rfl) (hx : (envOf cn cs L a ccd).kindOf (Str.ofString "BlockState") = some .globalImplicit := by rfl)
    (he : eval (.Call (.Name (Str.ofString "BlockState") p) [] [] pos) (envOf cn cs L a ccd) = (do callWith pos (← eval (.Name (Str.ofString "BlockState") p) (envOf cn cs L a ccd)) [] (backTo pos (starEach [] (envOf cn cs L a ccd))) (backToKw pos (keywordEach [] (envOf cn cs L a ccd)))) := by rfl) :
    Tr prog w A g L m n (eval (.Call (.Name (Str.ofString "BlockState") p) [] [] pos) (envOf cn cs L a ccd))
      (fun v n' => ∃ x dx T Sf se sl, v = .ref x ∧ SatL prog w script ([(x, .inst k dx), (dx, .bs k ⟨Str.ofString "", T, 0, 0, none, Sf, se⟩), (T, .toks k []), (Sf, .set k []), (se, .env b sl), (sl, .lk b [])] ++ cl) n') := by
  refine tr_Call (pu_K hB (gBlockState w) rfl hk hx rfl) (tr_callWith0 hB (kBlockState w) (Tr.mono (tr_withFun (tr_cls (k := 4) (RP := fun x dx v n' => _) (Pre := fun x dx h => ∀ q, (none : Option (Addr × BS)) = some q → BSAt h q.1 q.2) (c_makes w) (c_init w) (fn_init w) (hR.le (by decide)) hB (fun x dx nx ndx hne => s_init none ndx.2)
      (fun x dx _ _ => fun _ _ _ q e => nomatch e) (fun x dx v n' q => q.1))) fun v N' q => ?_)) he
  obtain ⟨⟨x, dx, n', rfl, nx, ndx, hne, ⟨_, T, Sf, se, od, oS, hbs, hS, m1, m2, m3, e1, e3, e2, _, henv⟩, hk', hxi, hn'⟩, hf⟩ := q
  obtain ⟨sl, oe, ol, he', hl', m4, m5, e4, e5, hne2⟩ := henv rfl
  have k1 := hn' _ m1
  have k2 := hn' _ m2
  have k3 := hn' _ m3
  have k4 := hn' _ m4
  have k5 := hn' _ m5
  have ce : oe.cls = .type "dict" := by obtain ⟨_, _, hc, _⟩ := he'; exact hc.1
  have cl' : ol.cls = .type "dict" := by obtain ⟨_, _, hc, _⟩ := hl'; exact hc.1
  have d1 : dx ≠ T := ne_cls hf k1.1 k2.1 (by rw [hbs.cls]; decide)
  have d2 : dx ≠ Sf := ne_cls hf k1.1 k3.1 (by rw [hbs.cls, hS.cls]; decide)
  have d3 : dx ≠ se := fun e => by
    subst e
    have := hf _ _ _ k1.1 k4.1
    subst this
    have := bs_len (prog := prog) (w := w) hbs he'
    simp at this
  have d4 : dx ≠ sl := fun e => by
    subst e
    have := hf _ _ _ k1.1 k5.1
    subst this
    have := bs_len (prog := prog) (w := w) hbs hl'
    simp at this
  have t1 : T ≠ Sf := ne_cls hf k2.1 k3.1 (by rw [hS.cls]; decide)
  have t2 : T ≠ se := ne_cls hf k2.1 k4.1 (by rw [ce]; decide)
  have t3 : T ≠ sl := ne_cls hf k2.1 k5.1 (by rw [cl']; decide)
  have s1 : Sf ≠ se := ne_cls hf k3.1 k4.1 (by rw [hS.cls, ce]; decide)
  have s2 : Sf ≠ sl := ne_cls hf k3.1 k5.1 (by rw [hS.cls, cl']; decide)
  have x2 : x ≠ T := k2.2.2.symm
  have x3 : x ≠ Sf := k3.2.2.symm
  have x4 : x ≠ se := k4.2.2.symm
  have x5 : x ≠ sl := k5.2.2.symm
  refine ⟨x, dx, T, Sf, se, sl, rfl, S.adds (fun q hq => ?_) ?_ (fun q hq => ?_) hk'⟩
  · simp only [List.mem_cons, List.not_mem_nil, or_false] at hq
    rcases hq with rfl | rfl | rfl | rfl | rfl | rfl
    · exact nx
    · exact ndx
    · exact ⟨k2.2.1, e2⟩
    · exact ⟨k3.2.1, e3⟩
    · exact ⟨k4.2.1, e4⟩
    · exact ⟨k5.2.1, e5⟩
  · simp [hne, x2, x3, x4, x5, d1, d2, d3, d4, t1, t2, t3, s1, s2, hne2]
  · simp only [List.mem_cons, List.not_mem_nil, or_false] at hq
    rcases hq with rfl | rfl | rfl | rfl | rfl | rfl
    · exact ⟨_, hxi, rfl⟩
    · exact ⟨od, k1.1, hbs⟩
    · exact ⟨_, k2.1, 0, rfl⟩
    · exact ⟨oS, k3.1, hS⟩
    · exact ⟨oe, k4.1, he'⟩
    · exact ⟨ol, k5.1, [], .nil, hl'⟩
/-- _law_made('', None, [], env) at the law's start -/
theorem tr_newModel {k : Nat} {ev : Addr} (hB : Bas w g) (hR : Room A 3) (S : SatL prog w script cl n) (he4 : ∀ n1, Pu prog w A g L m n1 (eval e4 (envOf cn cs L a ccd)) (· = .ref ev))
    (hk : cs.kind = .function := by rfl) (hx : (envOf cn cs L a ccd).kindOf (Str.ofString "_law_made") = some .globalImplicit := by rfl)
    (he : eval (.Call (.Name (Str.ofString "_law_made") p) [.Constant (.str (Str.ofString "")) 0 p1, .Constant .none 0 p2, .List [] p3, e4] [] pos) (envOf cn cs L a ccd) = (do callWith pos (← eval (.Name (Str.ofString "_law_made") p) (envOf cn cs L a ccd)) [] (backTo pos (starEach [.Constant (.str (Str.ofString "")) 0 p1, .Constant .none 0 p2, .List [] p3, e4] (envOf cn cs L a ccd))) (backToKw pos (keywordEach [] (envOf cn cs L a ccd)))) := by rfl)
    (hs4 : starEach [e4] (envOf cn cs L a ccd) = (false, eval e4 (envOf cn cs L a ccd)) :: starEach [] (envOf cn cs L a ccd) := by rfl)
    (hp1 : (backTo pos (starEach [.Constant .none 0 p2, .List [] p3, e4] (envOf cn cs L a ccd))).any (·.1) = false := by rfl) :
    Tr prog w A g L m n (eval (.Call (.Name (Str.ofString "_law_made") p) [.Constant (.str (Str.ofString "")) 0 p1, .Constant .none 0 p2, .List [] p3, e4] [] pos) (envOf cn cs L a ccd))
      (fun v n' => ∃ md mt mz, v = .ref md ∧ SatL prog w script ([(md, .md k (Str.ofString "") 0 mt 0 mz none ev), (mt, .mt k []), (mz, .mz k [])] ++ cl) n') := by
  refine tr_Call (pu_K hB (g_law_made w) rfl hk hx rfl) (tr_callWith hB (k_law_made w)
    (tr_args (P := fun v n1 => n1 = n ∧ IsS (Str.ofString "") v) (Ps := fun us n1 => ∃ v1 v2 mz om, us = [v1, v2, .ref mz, .ref ev] ∧ IsS (Str.ofString "") v1 ∧ IsPar none v2 ∧ New n mz ∧ IsIntL [] om ∧ n1 = (mz, om) :: n) pu_str fun v1 n1 q1 => ?_) (fun us n1 q => ?_) rfl hp1) he
  · obtain ⟨rfl, hv1⟩ := q1
    refine tr_args (P := fun v n2 => n2 = n1 ∧ v = .none) pu_none fun v2 n2 q2 => ?_
    obtain ⟨rfl, rfl⟩ := q2
    refine tr_args (tr_intList (l := []) hB (Tr.mono pu_args0 fun vs n' q => ⟨q.1, by rw [q.2]; exact .nil⟩) (by decide)) fun v3 n3 q3 => ?_
    obtain ⟨mz, om, rfl, hmz, hom, rfl⟩ := q3
    refine tr_args (P := fun v n4 => n4 = (mz, om) :: n2 ∧ v = .ref ev) (he4 _) (fun v4 n4 q4 => ?_) hs4
    obtain ⟨rfl, rfl⟩ := q4
    exact Tr.mono pu_args0 fun vs n' q => by
      obtain ⟨rfl, rfl⟩ := q
      exact ⟨v1, .none, mz, om, rfl, hv1, ⟨(0 : Nat), rfl⟩, hmz, hom, rfl⟩
  · obtain ⟨v1, v2, mz, om, rfl, hv1, hv2, hmz, hom, rfl⟩ := q
    refine Tr.mono (tr_withFun (tr_call (s_made (mz := mz) (ev := ev) hv1 hv2 (by decide)) (hR.le (by decide)) hB (fun p hp => nomatch hp) (fun _ _ _ => trivial))) fun v N' q => ?_
    obtain ⟨⟨n', ⟨md, mt, o, rfl, m1, hmd, m2, e1, e2⟩, rfl, hfr⟩, hf⟩ := q
    have fr : ∀ p ∈ n', p.1 ∉ ((mz, om) :: n).map (·.1) := fun p hp => (hfr p hp).resolve_left (fun h => nomatch h)
    have f1 := fr _ m1
    have f2 := fr _ m2
    simp only [List.map_cons, List.mem_cons, not_or] at f1 f2
    have c1 : md ≠ mt := ne_cls hf (List.mem_append_left _ m1) (List.mem_append_left _ m2) (by
      obtain ⟨t1, t2, t3, t4, hd⟩ := hmd
      obtain ⟨_, _, hc, _⟩ := hd
      rw [hc.1]; decide)
    refine ⟨md, mt, mz, rfl, S.adds (fun q hq => ?_) (by simp [c1, f1.1, f2.1]) (fun q hq => ?_) fun q hq => List.mem_append_right _ (by rw [List.map_nil, drop_nil]; exact .tail _ hq)⟩
    · simp only [List.mem_cons, List.not_mem_nil, or_false] at hq
      rcases hq with rfl | rfl | rfl
      · exact ⟨f1.2, e1⟩
      · exact ⟨f2.2, e2⟩
      · exact hmz
    · simp only [List.mem_cons, List.not_mem_nil, or_false] at hq
      rcases hq with rfl | rfl | rfl
      · exact ⟨o, List.mem_append_left _ m1, hmd⟩
      · exact ⟨_, List.mem_append_left _ m2, 0, rfl⟩
      · exact ⟨om, List.mem_append_right _ (by rw [List.map_nil, drop_nil]; exact .head _), hom⟩
end
end Mine
namespace Mine
structure SC where
  x : Addr
  dx : Addr
  T : Addr
  S : Addr
  se : Addr
  sl : Addr
structure MC where
  md : Addr
  mt : Addr
  mz : Addr
structure EC where
  e : Addr
  l : Addr
def SC.cells (c : SC) (k : Nat) (b : Bool) : List (Addr × Cell) := [(c.x, .inst k c.dx), (c.dx, .bs k ⟨Str.ofString "", c.T, 0, 0, none, c.S, c.se⟩), (c.T, .toks k []), (c.S, .set k []), (c.se, .env b c.sl), (c.sl, .lk b [])]
def MC.cells (c : MC) (k : Nat) (ev : Addr) : List (Addr × Cell) := [(c.md, .md k (Str.ofString "") 0 c.mt 0 c.mz none ev), (c.mt, .mt k []), (c.mz, .mz k [])]
def EC.cells (c : EC) (b : Bool) : List (Addr × Cell) := [(c.e, .menv b c.l), (c.l, .mlk b [])]
def SC.sn (c : SC) : SN := ⟨c.x, c.dx, ⟨Str.ofString "", c.T, 0, 0, none, c.S, c.se⟩, [], []⟩
def MC.mn (c : MC) (b : Bool) (ev : Addr) : MN := ⟨c.md, c.mt, c.mz, Str.ofString "", 0, 0, none, b, ev, [], []⟩
def lawD (B SL ML script : Addr) (c0 c1 : SC) (m0 m1 : MC) (f s : EC) : DD :=
  { B := B, SL := SL, ML := ML, script := script, place := 0, mix := 1, cs := 2, cm := 2, s := fun j => if j = 0 then c0.sn else c1.sn, m := fun j => if j = 0 then m0.mn false f.e else m1.mn true s.e,
    e := fun b => if b = true then ⟨c1.se, c1.sl, s.e, s.l, [], []⟩ else ⟨c0.se, c0.sl, f.e, f.l, [], []⟩ }
def lawCells (B SL ML : Addr) (c0 c1 : SC) (m0 m1 : MC) (f s : EC) : List (Addr × Cell) :=
  [(ML, .mods [m0.md, m1.md])] ++ (m1.cells 1 s.e ++ (m0.cells 0 f.e ++ ([(SL, .insts [c0.x, c1.x])] ++ (c1.cells 1 true ++ (c0.cells 0 false ++ (s.cells true ++ (f.cells false ++ [(B, .box 0 1)])))))))
section
variable {prog : Program} {w : World} {n : Led} {B SL ML script : Addr} {c0 c1 : SC} {m0 m1 : MC} {f s : EC}
theorem law_inv (S : SatL prog w script (lawCells B SL ML c0 c1 m0 m1 f s) n) : Inv prog w (lawD B SL ML script c0 c1 m0 m1 f s) n := by
  refine SatL.inv (D := lawD B SL ML script c0 c1 m0 m1 f s) S fun H o => ?_
  have inF : ∀ q ∈ f.cells false, q ∈ lawCells B SL ML c0 c1 m0 m1 f s := fun q hq => by simp [lawCells, hq]
  have inS : ∀ q ∈ s.cells true, q ∈ lawCells B SL ML c0 c1 m0 m1 f s := fun q hq => by simp [lawCells, hq]
  have in0 : ∀ q ∈ c0.cells 0 false, q ∈ lawCells B SL ML c0 c1 m0 m1 f s := fun q hq => by simp [lawCells, hq]
  have in1 : ∀ q ∈ c1.cells 1 true, q ∈ lawCells B SL ML c0 c1 m0 m1 f s := fun q hq => by simp [lawCells, hq]
  have im0 : ∀ q ∈ m0.cells 0 f.e, q ∈ lawCells B SL ML c0 c1 m0 m1 f s := fun q hq => by simp [lawCells, hq]
  have im1 : ∀ q ∈ m1.cells 1 s.e, q ∈ lawCells B SL ML c0 c1 m0 m1 f s := fun q hq => by simp [lawCells, hq]
  cases o with
  | box => exact H _ _ (by simp [lawCells, lawD])
  | sl => exact H _ _ (by show (SL, Cell.insts [c0.x, c1.x]) ∈ _; simp [lawCells])
  | ml => exact H _ _ (by show (ML, Cell.mods [m0.md, m1.md]) ∈ _; simp [lawCells])
  | s k =>
    intro hk
    have hk' : k < 2 := hk
    have : k = 0 ∨ k = 1 := by omega
    rcases this with rfl | rfl
    · exact ⟨H _ _ (in0 _ (.head _)), H _ _ (in0 _ (.tail _ (.head _))), H _ _ (in0 _ (.tail _ (.tail _ (.head _)))), H _ _ (in0 _ (.tail _ (.tail _ (.tail _ (.head _))))), (fun t ht => nomatch ht), List.nodup_nil⟩
    · exact ⟨H _ _ (in1 _ (.head _)), H _ _ (in1 _ (.tail _ (.head _))), H _ _ (in1 _ (.tail _ (.tail _ (.head _)))), H _ _ (in1 _ (.tail _ (.tail _ (.tail _ (.head _))))), (fun t ht => nomatch ht), List.nodup_nil⟩
  | m k =>
    intro hk
    have hk' : k < 2 := hk
    have : k = 0 ∨ k = 1 := by omega
    rcases this with rfl | rfl
    · exact ⟨H _ _ (im0 _ (.head _)), H _ _ (im0 _ (.tail _ (.head _))), H _ _ (im0 _ (.tail _ (.tail _ (.head _)))), (fun t ht => nomatch ht), List.nodup_nil⟩
    · exact ⟨H _ _ (im1 _ (.head _)), H _ _ (im1 _ (.tail _ (.head _))), H _ _ (im1 _ (.tail _ (.tail _ (.head _)))), (fun t ht => nomatch ht), List.nodup_nil⟩
  | e b =>
    cases b with
    | false => exact ⟨H _ _ (in0 _ (.tail _ (.tail _ (.tail _ (.tail _ (.head _)))))), H _ _ (in0 _ (.tail _ (.tail _ (.tail _ (.tail _ (.tail _ (.head _))))))), H _ _ (inF _ (.head _)), H _ _ (inF _ (.tail _ (.head _)))⟩
    | true => exact ⟨H _ _ (in1 _ (.tail _ (.tail _ (.tail _ (.tail _ (.head _)))))), H _ _ (in1 _ (.tail _ (.tail _ (.tail _ (.tail _ (.tail _ (.head _))))))), H _ _ (inS _ (.head _)), H _ _ (inS _ (.tail _ (.head _)))⟩
theorem law_good : Good (lawD B SL ML script c0 c1 m0 m1 f s) 1 1 := by
  have hA : ∀ (c : SC) (m : MC) (b : Bool) (ev : Addr), NodeA c.sn (m.mn b ev) 1 := fun c m b ev =>
    { src := rfl, mem := .head _, sl := rfl, ml := rfl, cur := rfl, c0 := Int.le_refl _, c1 := (by show (0 : Int) < 13; decide), ts := rfl, tl := Nat.zero_le _, tx := (fun t ht => nomatch ht), lz := rfl, lk := .inl rfl }
  refine ⟨by show 2 ≤ 2; decide, by show 2 ≤ 6; decide, rfl, Int.le_refl _, by show (0 : Int) ≤ 1; decide, by show (0 : Int) ≤ 1; decide, by show (1 : Int) < 2147483647; decide, fun k hk => ?_, fun k hk => ?_, fun e => ?_, rfl, rfl⟩
  · have hk' : k < 2 := hk
    have : k = 0 ∨ k = 1 := by omega
    rcases this with rfl | rfl
    · exact hA _ _ _ _
    · exact hA _ _ _ _
  · have hk' : k < 2 := hk
    have : k = 0 ∨ k = 1 := by omega
    rcases this with rfl | rfl
    · exact ⟨rfl, rfl, fun _ => rfl, fun p q => nomatch q⟩
    · exact ⟨rfl, rfl, fun _ => rfl, fun p q => nomatch q⟩
  · cases e with
    | false => exact ⟨rfl, Nat.zero_le _, List.nodup_nil⟩
    | true => exact ⟨rfl, Nat.zero_le _, List.nodup_nil⟩
end
end Mine
namespace Mine
section
variable {prog : Program} {w : World} {D : DD} {n n' : Led} {k : Nat} {b pl : Nat} {dv kv : Value} {A : Around} {g : Heap} {L : Addr} {m : Str → Option Value} {X : List Addr} {I : Addr} {oI : Obj}
theorem s_deed {d : Int} (hd : IsI d dv) (d0 : 0 ≤ d) (d1 : d < 11) (hk : IsI k kv) (hkc : k < D.cs) (G : Good D b pl) (hb : b ≤ 400) (hpl : pl ≤ 80000) (I : Inv prog w D n) :
    FSpec prog w (.ref 179) [.ref D.B, dv, kv, .ref D.SL, .ref D.ML] 20 n (fun h => Scr h D.script) (Done prog w D b pl) := by
  have : d = 0 ∨ d = 1 ∨ d = 2 ∨ d = 3 ∨ d = 4 ∨ d = 5 ∨ d = 6 ∨ d = 7 ∨ d = 8 ∨ d = 9 ∨ d = 10 := by omega
  rcases this with rfl | rfl | rfl | rfl | rfl | rfl | rfl | rfl | rfl | rfl | rfl
  · exact s_deed0 hd hk hkc G hpl I
  · exact s_deed1 hd hk hkc G hpl I
  · exact s_deed2 hd hk hkc G hpl I
  · exact s_deed3 hd hk hkc G hpl I
  · exact s_deed4 hd hk hkc G (by omega) hpl I
  · exact s_deed5 hd hk hkc G hb hpl I
  · exact s_deed6 hd hk hkc G hb hpl I
  · exact s_deed7 hd hk hkc G hb hpl I
  · exact s_deed8 hd hk hkc G (by omega) hpl I
  · exact s_deed9 hd hk hkc G hb hpl I
  · exact s_deed10 hd hk hkc G hb hpl I
/-- a deed done beside a place of another -/
theorem tr_deed {d : Int} (hB : Bas w g) (hR : Room A 20) (hS : Scr g D.script) (hd : IsI d dv) (d0 : 0 ≤ d) (d1 : d < 11) (hk : IsI k kv) (hkc : k < D.cs) (G : Good D b pl) (hb : b ≤ 400) (hpl : pl ≤ 80000) (I0 : Inv prog w D (OnX n X)) (hI : I ∉ X) (hIm : (I, oI) ∈ n) :
    Tr prog w A g L m n (call (.ref 179) [.ref D.B, dv, kv, .ref D.SL, .ref D.ML]) (fun v n' => v = .bool true ∧ (I, oI) ∈ n' ∧ ∃ D' X', Inv prog w D' (OnX n' X') ∧ I ∉ X' ∧ Good D' (b + 1) (pl + 5) ∧ Ext D D') := by
  refine Tr.mono (tr_call (s_deed hd d0 d1 hk hkc G hb hpl I0) hR hB (fun p hp => (onx_mem.mp hp).1) (Kno.of hS fun h h' kp b => b.keeps kp)) fun v N' q => ?_
  obtain ⟨n', ⟨rfl, D', I', G', E'⟩, rfl, hfr⟩ := q
  have hIa : I ∉ (OnX n X).map (·.1) := fun h => by
    obtain ⟨p, hp, e⟩ := List.mem_map.mp h
    exact hI (by rw [← e]; exact (onx_mem.mp hp).2)
  refine ⟨rfl, List.mem_append_right _ (mem_drop hIm hIa), D', n'.map (·.1), I'.mono fun p hp => onx_mem.mpr ⟨List.mem_append_left _ hp, List.mem_map_of_mem (f := Prod.fst) hp⟩, fun h => ?_, G', E'⟩
  obtain ⟨p, hp, e⟩ := List.mem_map.mp h
  rcases hfr p hp with h1 | h1
  · rw [show p.1 = I from e] at h1; exact hIa h1
  · rw [show p.1 = I from e] at h1; exact h1 (List.mem_map_of_mem (f := Prod.fst) hIm)
/-- the law's loop -/
structure Turn (prog : Program) (w : World) (D0 : DD) (N i : Nat) (I : Addr) (m : Str → Option Value) (n : Led) (D : DD) (X : List Addr) : Prop where
  inv : Inv prog w D (OnX n X)
  off : I ∉ X
  good : Good D (1 + i) (20 + 10 * i)
  ext : Ext D0 D
  le : N ≤ 28
  box : m (Str.ofString "box") = some (.ref D0.B)
  st : m (Str.ofString "states") = some (.ref D0.SL)
  mo : m (Str.ofString "models") = some (.ref D0.ML)
theorem Ext.trans {D0 D1 D2 : DD} (a : Ext D0 D1) (c : Ext D1 D2) : Ext D0 D2 := ⟨c.B.trans a.B, c.SL.trans a.SL, c.ML.trans a.ML, c.sc.trans a.sc, Nat.le_trans a.cs c.cs⟩
theorem Ext.draw (D : DD) (mix : Int) : Ext D (D.draw mix) := ⟨rfl, rfl, rfl, rfl, Nat.le_refl _⟩
theorem onx_put {o : Obj} (hI : I ∉ X) : ∀ p ∈ OnX n X, p ∈ OnX (put n I o) X := fun p hp => onx_mem.mpr ⟨mem_put (onx_mem.mp hp).1 fun e => hI (by rw [← e]; exact (onx_mem.mp hp).2), (onx_mem.mp hp).2⟩
theorem onx_drop (hI : I ∉ X) : ∀ p ∈ OnX n X, p ∈ drop n [I] := fun p hp => mem_drop (onx_mem.mp hp).1 (by simpa using fun e => hI (by rw [← e]; exact (onx_mem.mp hp).2))
section
variable {cn : Str} {cs : Scope} {a : Addr} {ccd : Value} {pos p : Pos} {e1 e2 e3 : Expr}
/-- _law_same(states, models, k) -/
theorem pu_lawSame {kk : Nat} (hB : Bas w g) (hR : Room A 10) (hI : Kno g n (InvH prog w D)) (hkc : kk < D.cs) (G : Good D b pl)
    (h1 : Pu prog w A g L m n (eval e1 (envOf cn cs L a ccd)) (· = .ref D.SL)) (h2 : Pu prog w A g L m n (eval e2 (envOf cn cs L a ccd)) (· = .ref D.ML)) (h3 : Pu prog w A g L m n (eval e3 (envOf cn cs L a ccd)) (IsI kk))
    (hk : cs.kind = .function := by rfl) (hx : (envOf cn cs L a ccd).kindOf (Str.ofString "_law_same") = some .globalImplicit := by rfl)
    (he : eval (.Call (.Name (Str.ofString "_law_same") p) [e1, e2, e3] [] pos) (envOf cn cs L a ccd) = (do callWith pos (← eval (.Name (Str.ofString "_law_same") p) (envOf cn cs L a ccd)) [] (backTo pos (starEach [e1, e2, e3] (envOf cn cs L a ccd))) (backToKw pos (keywordEach [] (envOf cn cs L a ccd)))) := by rfl)
    (hs1 : starEach [e1, e2, e3] (envOf cn cs L a ccd) = (false, eval e1 (envOf cn cs L a ccd)) :: starEach [e2, e3] (envOf cn cs L a ccd) := by rfl) (hs2 : starEach [e2, e3] (envOf cn cs L a ccd) = (false, eval e2 (envOf cn cs L a ccd)) :: starEach [e3] (envOf cn cs L a ccd) := by rfl)
    (hs3 : starEach [e3] (envOf cn cs L a ccd) = (false, eval e3 (envOf cn cs L a ccd)) :: starEach [] (envOf cn cs L a ccd) := by rfl)
    (hp1 : (backTo pos (starEach [e2, e3] (envOf cn cs L a ccd))).any (·.1) = false := by rfl) :
    Pu prog w A g L m n (eval (.Call (.Name (Str.ofString "_law_same") p) [e1, e2, e3] [] pos) (envOf cn cs L a ccd)) (· = .bool true) :=
  tr_Call (pu_K hB (g_law_same w) rfl hk hx rfl) (tr_callWith hB (k_law_same w) (pu_args h1 (pu_args h2 (pu_args h3 pu_args0 hs3) hs2) hs1) (fun us n1 q => by
    obtain ⟨rfl, v1, r1, rfl, rfl, v2, r2, rfl, rfl, v3, r3, rfl, hv3, rfl⟩ := q
    exact pu_call (s_same hv3 G hkc) (hR.le (by decide)) hB hI fun v n' q => q) hs1 hp1) he
end
end
end Mine
namespace Mine
theorem done_sx {prog : Program} {w : World} {A : Around} {g : Heap} {L : Addr} {m : Str → Option Value} {n : Led} {t : Sem Flow} {s : Shared} {Q : Flow → Shared → Prop} {E : Value → Shared → Prop} (F : Fr g L s.heap m) (N : News g L s.heap n)
    (hR : Room A 60) (h : Room A 60 → Sx prog w A g L m n t (fun fl _ _ => retv fl = .bool true)) (k : ∀ fl h' tk m', retv fl = .bool true → Fr g L h' m' → Q fl { s with heap := h', toks := tk }) : wpAny (model prog w) A t Q E s :=
  (h hR).go s Q E F N fun fl h' tk m' n' p F' N' => k fl h' tk m' p F'
theorem law_room (env : Env) : Room (callerA.deeper env) 60 := ⟨rfl, by show callerA.depth + 1 + 60 < 900; decide, by show callerA.units + 3 + 16 * 60 < 9000; decide⟩
set_option maxHeartbeats 8000000 in
set_option pp.maxSteps 3000 in
theorem fin : PySem.Challenge.rw_bq5015_01.Holds := hd (by
  k_go0
  rename World => w
  rename Addr => script
  have F := ‹Fr _ _ _ _›
  have N0 := ‹News _ _ _ _›
  have KX := ‹Frag.In _ _›
  have T := ‹Top _ _ _ _ _ _›
  have hL := ‹Heap.IsList _ _ _›
  have hI := ‹IntsAre _ _›
  have hlen := ‹¬ (_ < _)›
  refine done_sx (s := { heap := _, gens := _, drawn := _, toks := _, os := _ }) F N0 (law_room _) (fun hR => ?_) fun fl h' tk m' e F' => ?_
  · have hB := Bas.mk KX ⟨_, _, _, _, topRead_of T⟩
    have hS := Scr.mk ⟨_, _, hI, by have := hI.length; omega, hL⟩
    refine sx_let (P := fun v n1 => ∃ B, v = .ref B ∧ SatL PySem.Challenge.rw_bq5015_01.row.prog w script [(B, .box 0 1)] n1) (tr_List hB (Pa := fun vs n1 => n1 = [] ∧ ∃ t1 t2, vs = [.ref script, .int 0 t1, .int 1 t2]) (Tr.mono (pu_args (pu_local (P := (· = .ref script)) rfl rfl) (pu_args pu_int (pu_args pu_int pu_args0))) fun vs n' q => ?_) fun vs n' q => ?_) fun v n1 q => ?_
    · obtain ⟨rfl, v1, r1, rfl, rfl, v2, r2, rfl, ⟨t1, rfl⟩, v3, r3, rfl, ⟨t2, rfl⟩, rfl⟩ := q
      exact ⟨rfl, t1, t2, rfl⟩
    · obtain ⟨rfl, t1, t2, rfl⟩ := q
      exact ⟨by simp, fun a ha => ⟨a, rfl, SatL.nil.add ha (.head _) ⟨t1, t2, rfl, 0, rfl⟩ fun p hp => nomatch hp⟩⟩
    obtain ⟨B, rfl, S1⟩ := q
    refine sx_let (tr_envDict (b := false) hB S1) fun v n2 q => ?_
    obtain ⟨e0, l0, rfl, S2⟩ := q
    refine sx_let (tr_envDict (b := true) hB S2) fun v n3 q => ?_
    obtain ⟨e1, l1, rfl, S3⟩ := q
    refine sx_let (P := fun v n' => ∃ (SL : Addr) (c0 c1 : SC), v = .ref SL ∧ SatL PySem.Challenge.rw_bq5015_01.row.prog w script ([(SL, .insts [c0.x, c1.x])] ++ (c1.cells 1 true ++ (c0.cells 0 false ++ ((EC.mk e1 l1).cells true ++ ((EC.mk e0 l0).cells false ++ [(B, .box 0 1)]))))) n')
      (tr_List hB (Pa := fun vs n' => ∃ (c0 c1 : SC), vs = [.ref c0.x, .ref c1.x] ∧ SatL PySem.Challenge.rw_bq5015_01.row.prog w script (c1.cells 1 true ++ (c0.cells 0 false ++ ((EC.mk e1 l1).cells true ++ ((EC.mk e0 l0).cells false ++ [(B, .box 0 1)])))) n') (tr_args (tr_newState (k := 0) (b := false) hB (hR.le (by decide)) S3) fun v4 n4 q => ?_) fun vs n' q => ?_) fun v n6 q => ?_
    · obtain ⟨x, dx, T, Sf, se, sl, rfl, S4⟩ := q
      refine tr_args (tr_newState (k := 1) (b := true) hB (hR.le (by decide)) S4) fun v5 n5 q => ?_
      obtain ⟨x', dx', T', Sf', se', sl', rfl, S5⟩ := q
      exact Tr.mono pu_args0 fun vs n' q => by obtain ⟨rfl, rfl⟩ := q; exact ⟨⟨x, dx, T, Sf, se, sl⟩, ⟨x', dx', T', Sf', se', sl'⟩, rfl, S5⟩
    · obtain ⟨c0, c1, rfl, S5⟩ := q
      exact ⟨by simp, fun a ha => ⟨a, c0, c1, rfl, S5.add ha (.head _) ⟨0, rfl⟩ fun p hp => .tail _ hp⟩⟩
    obtain ⟨SL, c0, c1, rfl, S6⟩ := q
    refine sx_let (P := fun v n' => ∃ (ML : Addr) (m0 m1 : MC), v = .ref ML ∧ SatL PySem.Challenge.rw_bq5015_01.row.prog w script (lawCells B SL ML c0 c1 m0 m1 ⟨e0, l0⟩ ⟨e1, l1⟩) n')
      (tr_List hB (Pa := fun vs n' => ∃ (m0 m1 : MC), vs = [.ref m0.md, .ref m1.md] ∧ SatL PySem.Challenge.rw_bq5015_01.row.prog w script (m1.cells 1 e1 ++ (m0.cells 0 e0 ++ ([(SL, .insts [c0.x, c1.x])] ++ (c1.cells 1 true ++ (c0.cells 0 false ++ ((EC.mk e1 l1).cells true ++ ((EC.mk e0 l0).cells false ++ [(B, .box 0 1)]))))))) n') (tr_args (tr_newModel (k := 0) (ev := e0) hB (hR.le (by decide)) S6 fun n1 => pu_local rfl rfl) fun v7 n7 q => ?_) fun vs n' q => ?_) fun v n9 q => ?_
    · obtain ⟨md, mt, mz, rfl, S7⟩ := q
      refine tr_args (tr_newModel (k := 1) (ev := e1) hB (hR.le (by decide)) S7 fun n1 => pu_local rfl rfl) fun v8 n8 q => ?_
      obtain ⟨md', mt', mz', rfl, S8⟩ := q
      exact Tr.mono pu_args0 fun vs n' q => by obtain ⟨rfl, rfl⟩ := q; exact ⟨⟨md, mt, mz⟩, ⟨md', mt', mz'⟩, rfl, S8⟩
    · obtain ⟨m0, m1, rfl, S8⟩ := q
      exact ⟨by simp, fun a ha => ⟨a, m0, m1, rfl, S8.add ha (.head _) ⟨0, rfl⟩ fun p hp => .tail _ hp⟩⟩
    obtain ⟨ML, m0, m1, rfl, S9⟩ := q
    obtain ⟨D, eB, eSL, eML, esc, I0, G0⟩ : ∃ D : DD, D.B = B ∧ D.SL = SL ∧ D.ML = ML ∧ D.script = script ∧ Inv PySem.Challenge.rw_bq5015_01.row.prog w D n9 ∧ Good D 1 1 := ⟨lawD B SL ML script c0 c1 m0 m1 ⟨e0, l0⟩ ⟨e1, l1⟩, rfl, rfl, rfl, rfl, law_inv S9, law_good⟩
    rw [← esc] at hS
    obtain ⟨items, hil, hi8, _, hiX⟩ := texts_list hB
    have I0 : Inv PySem.Challenge.rw_bq5015_01.row.prog w D (OnX n9 (n9.map (·.1))) := by rw [onx_all]; exact I0
    refine sx_let (tr_pickX (D := D) (Y := texts.drop 2) (kk := 9) hB (hR.le (j := 12) (by decide)) hS G0 (by decide) I0 (pu_local rfl (by rw [eB])) (Tr.mono (tr_sliceN (items := items.toArray) hB (Kno.of hil fun h h' k b => b.at fun o e => k _ _ e) (by rw [sizeLine_eq]; simp; omega) (pu_K (P := (· = .ref 122)) hB (g_law_texts w) rfl rfl) (pu_partSome pu_int) pu_partNone) fun v n' q => ?_)) fun tv n10 q => ?_
    · obtain ⟨a, rfl, ha, rfl⟩ := q
      obtain ⟨oB, hmB, _⟩ := inv_box I0
      have hBm : D.B ∈ n9.map (·.1) := (onx_mem.mp hmB).2
      have haB : a ≠ D.B := fun e => ha.1 (by rw [e]; exact hBm)
      have e2 := slicePick_from' items.toArray 2
      refine ⟨a, items.drop 2, rfl, fun p hp => .tail _ hp, fun h _ q => ⟨_, q _ (mem_drop (.head _) (by simpa using haB)), rfl, 0, ?_⟩, by simp; omega, by simp; omega, hiX⟩
      show Data.seq (slicePick items.toArray (some 2) none none) 0 = _
      rw [show (some (2 : Int)) = some ((2 : Nat) : Int) from rfl, e2]
    obtain ⟨y, hy, hyv, mx2, mx20, mx21, I2, _, _⟩ := q
    have hy : y ∈ texts := List.mem_of_mem_drop hy
    have I2 : Inv _ w (D.draw mx2) n10 := I2.full
    have G2 := G0.draw mx20 mx21
    have hyl := (endOk_texts y hy).1
    have hc0 : 0 < D.cs := by have := G0.c2; omega
    have hcm0 : 0 < D.cm := by rw [G0.cm]; exact hc0
    have hc6 := G0.c6
    have hcm6 : D.cm ≤ 6 := by rw [G0.cm]; exact hc6
    obtain ⟨od, md, hbs⟩ : ∃ o, ((D.s 0).dx, o) ∈ n10 ∧ IsBS (D.s 0).f o := inv_bs (D := D.draw mx2) I2 hc0
    obtain ⟨mi, hne⟩ : ((D.s 0).x, instObj 117 (D.s 0).dx) ∈ n10 ∧ (D.s 0).x ≠ (D.s 0).dx := inv_inst (D := D.draw mx2) I2 hc0
    refine sx_expr (P := fun v n' => Inv PySem.Challenge.rw_bq5015_01.row.prog w ((D.draw mx2).setS 0 { D.s 0 with f := { (D.s 0).f with src := y, lim := y.length } }) n') (tr_Method (Po := (· = .ref (D.s 0).x)) (pu_state (D := D.draw mx2) (k := 0) I2.kno hc0 (by show D.cs ≤ 1000; omega) (pu_local rfl (by rw [← eSL]; rfl)) pu_int) fun ov q => ?_) fun u n11 I3 => ?_
    · subst q
      refine ⟨_, _, pu_meth hB (kno_bs mi md hbs) (m_process w) (fn_process w) (by intros; rfl), tr_callWith hB (kp_process w) (pu_args (pu_local rfl hyv) pu_args0) fun vs n3 q => ?_⟩
      obtain ⟨rfl, v, r, rfl, hv, rfl⟩ := q
      refine Tr.mono (tr_call (s_process hv hbs (by omega)) (hR.le (by decide)) hB (fun q hq => by
        have : q = ((D.s 0).dx, od) := by simpa using hq
        subst this; exact md) (Kno.mem (mem_drop mi (by simpa using hne)))) fun v N' q => ?_
      obtain ⟨n', ⟨_, o', hb', rfl⟩, rfl, _⟩ := q
      exact inv_bs_up I2 hc0 (.head _) hb' rfl rfl Kp.call
    refine sx_letPu (P := (· = .ref (D.m 0).md)) (pu_model (D := (D.draw mx2).setS 0 { D.s 0 with f := { (D.s 0).f with src := y, lim := y.length } }) (k := 0) I3.kno hcm0 (by show D.cm ≤ 1000; omega) (pu_local rfl (by rw [← eML]; rfl)) pu_int) fun v e => ?_
    subst e
    refine sx_put (pu_local rfl hyv) (pu_local (P := (· = .ref (D.m 0).md)) rfl rfl) pu_str fun v iv hv hi => Tr.mono (tr_msetSrc I3 hcm0 rfl hi hv) fun _ n12 I4 => ?_
    refine sx_put (pu_lenStr hB (by omega) (pu_local rfl hyv)) (pu_local (P := (· = .ref (D.m 0).md)) rfl rfl) pu_str fun v iv hv hi => ?_
    refine Tr.mono (tr_msetLim I4 hcm0 (by first | (rw [DD.setM_self]; done) | (rw [DD.setM_self]; rfl)) hi hv) fun _ n13 I5 => ?_
    rw [DD.setM_self, DD.setM_setM] at I5
    have N := G0.na 0 hc0
    obtain ⟨D1, I6, G6, E1⟩ : ∃ D1, Inv PySem.Challenge.rw_bq5015_01.row.prog w D1 n13 ∧ Good D1 1 2 ∧ Ext D D1 := by
      refine ⟨_, I5, ?_, ⟨rfl, rfl, rfl, rfl, Nat.le_refl _⟩⟩
      refine Good.more (Good.upd G2 hc0 ?_ ?_ ?_ ?_ ?_ ?_ ?_ (Nat.le_refl _)) (Nat.le_refl _) (Nat.le_refl _)
      any_goals rfl
      exact { src := rfl, mem := hy, sl := rfl, ml := rfl, cur := N.cur, c0 := N.c0, c1 := N.c1, ts := N.ts, tl := N.tl, tx := N.tx, lz := N.lz, lk := N.lk }
    have I6 : Inv PySem.Challenge.rw_bq5015_01.row.prog w D1 (OnX n13 (n13.map (·.1))) := by rw [onx_all]; exact I6
    have hS1 := hS
    rw [← E1.sc] at hS1
    refine sx_forRange (P0 := fun N n1 => N ≤ 28 ∧ ∃ D2, Inv PySem.Challenge.rw_bq5015_01.row.prog w D2 n1 ∧ Good D2 1 5 ∧ Ext D D2) (fun N i I m n => ∃ D' X, Turn PySem.Challenge.rw_bq5015_01.row.prog w D N i I m n D' X) hB hR.hd ?_ (fun N n1 I q hn => ?_) (fun N i I m n o' q => ?_) (fun N i I m n v hi hv hIm q => ?_) fun N I m n q => ?_
    · refine tr_BinOp (Pl := fun v n1 => n1 = n13 ∧ IsI 4 v) (Pr := fun a v n1 => IsI 4 a ∧ ∃ d, IsI d v ∧ 0 ≤ d ∧ d < 25 ∧ ∃ D2, Inv PySem.Challenge.rw_bq5015_01.row.prog w D2 n1 ∧ Good D2 1 5 ∧ Ext D D2) pu_int (fun a n1 q => ?_) fun a v n2 q => ?_
      · obtain ⟨rfl, ha⟩ := q
        refine Tr.mono (tr_drawX (D := D1) (size := 25) (kk := 11) hB (hR.le (j := 12) (by decide)) hS1 G6 (by decide) I6 (by decide) (pu_local rfl (by rw [E1.B, eB])) pu_int) fun v n' z => ?_
        obtain ⟨d, hd, d0, d1, mix, x0, x1, I7, _, _⟩ := z
        exact ⟨ha, d, hd, d0, d1, D1.draw mix, I7.full, (G6.draw x0 x1).more (Nat.le_refl _) (by decide), E1.trans (Ext.draw _ _)⟩
      · obtain ⟨⟨t, rfl⟩, d, ⟨u, rfl⟩, d0, d1, D2, I7, G7, E7⟩ := q
        exact tr_of fun s Q E F NN k => PyProof.Rows.add_int (k _ _ ⟨(4 + d).toNat, ⟨_, by rw [Int.toNat_of_nonneg (by omega)]⟩, by omega, by omega, D2, I7, G7, E7⟩)
    · obtain ⟨hN, D2, I7, G7, E7⟩ := q
      exact ⟨D2, n1.map (·.1), { inv := I7.mono fun p hp => onx_mem.mpr ⟨.tail _ hp, List.mem_map_of_mem (f := Prod.fst) hp⟩, off := hn.1, good := G7.more (by omega) (by omega), ext := E7, le := hN, box := by rw [eB]; rfl, st := by rw [eSL]; rfl, mo := by rw [eML]; rfl }⟩
    · obtain ⟨D', X, T2⟩ := q
      exact ⟨D', X, { inv := T2.inv.mono (onx_put T2.off), off := T2.off, good := T2.good, ext := T2.ext, le := T2.le, box := T2.box, st := T2.st, mo := T2.mo }⟩
    · obtain ⟨D2, X, T2⟩ := q
      have G := T2.good
      have hN := T2.le
      have hSd := hS
      rw [← T2.ext.sc] at hSd
      have hc2 := G.c2
      have hc6' := G.c6
      have hbB : (Value.ref D.B) = .ref D2.B := by rw [T2.ext.B]
      have hbS : (Value.ref D.SL) = .ref D2.SL := by rw [T2.ext.SL]
      have hbM : (Value.ref D.ML) = .ref D2.ML := by rw [T2.ext.ML]
      have hlS : ∀ (D' : DD), D'.cs = D2.cs → ∀ (v : Value), IsI ((((List.range D'.cs).map fun j => (D'.s j).x).map Value.ref).toArray.size : Int) v → IsI D2.cs v := fun D' e v hv => by simpa [e] using hv
      refine sx_let (tr_drawX (D := D2) (X := X) (size := D2.cs) (kk := 11) hB (hR.le (j := 12) (by decide)) hSd G (by omega) T2.inv (by omega) (pu_local (P := (· = .ref D2.B)) (show m (Str.ofString "box") = _ from T2.box) hbB)
        (Pu.mono (pu_lenList hB (T2.inv.full.kno.imp fun h i => rd_states (D := D2) i) (by simp; omega) (pu_local (P := (· = .ref D2.SL)) (show m (Str.ofString "states") = _ from T2.st) hbS)) (hlS D2 rfl))) fun kv n14 q => ?_
      obtain ⟨d, hkv, d0, d1, mx, x0, x1, I3, hBX, hk3⟩ := q
      obtain ⟨k, rfl⟩ : ∃ k : Nat, d = k := ⟨d.toNat, by omega⟩
      have G3 := G.draw x0 x1
      refine sx_let (tr_drawX (D := D2.draw mx) (X := X) (size := D2.cs) (kk := 11) hB (hR.le (j := 12) (by decide)) hSd G3 (by omega) I3 (by omega) (pu_local (P := (· = .ref D2.B)) (show m (Str.ofString "box") = _ from T2.box) hbB)
        (Pu.mono (pu_lenList hB (I3.full.kno.imp fun h i => rd_states (D := D2.draw mx) i) (by show ((((List.range D2.cs).map fun j => (D2.s j).x).map Value.ref).toArray.size : Int) < _; simp; omega) (pu_local (P := (· = .ref D2.SL)) (show m (Str.ofString "states") = _ from T2.st) hbS)) (hlS (D2.draw mx) rfl))) fun ov n15 q => ?_
      obtain ⟨d', hov, d0', d1', mx', x0', x1', I4, _, hk4⟩ := q
      obtain ⟨k', rfl⟩ : ∃ k' : Nat, d' = k' := ⟨d'.toNat, by omega⟩
      have G4 := G3.draw x0' x1'
      refine sx_let (tr_drawX (D := (D2.draw mx).draw mx') (X := X) (size := 11) (kk := 11) hB (hR.le (j := 12) (by decide)) hSd G4 (by omega) I4 (by decide) (pu_local (P := (· = .ref D2.B)) (show m (Str.ofString "box") = _ from T2.box) hbB) pu_int) fun dv n16 q => ?_
      obtain ⟨dd, hdv, e0', e1', mx3, x03, x13, I5', _, hk5⟩ := q
      have G5 := G4.draw x03 x13
      have hIB : I ≠ D2.B := fun e => T2.off (by rw [e]; exact hBX)
      have hIm5 := hk5 _ (hk4 _ (hk3 _ hIm hIB) hIB) hIB
      refine sx_if (PB := fun c n' => c = false ∧ (I, itObj (i + 1) N) ∈ n' ∧ ∃ D' X', Inv PySem.Challenge.rw_bq5015_01.row.prog w D' (OnX n' X') ∧ I ∉ X' ∧ Good D' (1 + i + 1) (20 + 10 * i + 1 + 1 + 1 + 5) ∧ Ext (((D2.draw mx).draw mx').draw mx3) D')
        (tr_not (tr_test (P := fun v n' => v = .bool true ∧ (I, itObj (i + 1) N) ∈ n' ∧ ∃ D' X', Inv PySem.Challenge.rw_bq5015_01.row.prog w D' (OnX n' X') ∧ I ∉ X' ∧ Good D' (1 + i + 1) (20 + 10 * i + 1 + 1 + 1 + 5) ∧ Ext (((D2.draw mx).draw mx').draw mx3) D')
          (tr_Call (pu_K hB (g_law_deed w) rfl rfl) (tr_callWith hB (k_law_deed w) (pu_args (pu_local (P := (· = .ref D2.B)) (show m (Str.ofString "box") = _ from T2.box) hbB) (pu_args (pu_local rfl hdv) (pu_args (pu_local rfl hkv) (pu_args (pu_local (P := (· = .ref D2.SL)) (show m (Str.ofString "states") = _ from T2.st) hbS) (pu_args (pu_local (P := (· = .ref D2.ML)) (show m (Str.ofString "models") = _ from T2.mo) hbM) pu_args0))))) fun us n17 q => ?_)) fun v n17 q => ?_)) (fun n17 q => absurd q.1 (by decide)) fun n17 q => sx_nil ?_
      · obtain ⟨rfl, v1, r1, rfl, rfl, v2, r2, rfl, hv2, v3, r3, rfl, hv3, v4, r4, rfl, rfl, v5, r5, rfl, rfl, rfl⟩ := q
        exact tr_deed (D := ((D2.draw mx).draw mx').draw mx3) hB (hR.le (by decide)) hSd hv2 e0' e1' hv3 (by show k < D2.cs; omega) G5 (by omega) (by omega) I5' T2.off hIm5
      · obtain ⟨rfl, r⟩ := q
        exact Tr.mono pu_tbool fun c n' z => by obtain ⟨rfl, rfl⟩ := z; exact ⟨rfl, r⟩
      obtain ⟨_, hIm6, D6, X6, I6', hI6, G6', E6⟩ := q
      have E26 : Ext D2 D6 := ((Ext.draw D2 mx).trans ((Ext.draw _ mx').trans (Ext.draw _ mx3))).trans E6
      have hcs := E26.cs
      have hbS6 : (Value.ref D.SL) = .ref D6.SL := by rw [hbS, E26.SL]
      have hbM6 : (Value.ref D.ML) = .ref D6.ML := by rw [hbM, E26.ML]
      refine sx_skip (pu_orF (tr_not (P := fun c n' => n' = n17 ∧ c = false) (pu_test (PB := fun c => (!c) = false) (pu_lawSame (D := D6) (kk := k) hB (hR.le (by decide)) I6'.full.kno (by omega) G6' (pu_local (show m (Str.ofString "states") = _ from T2.st) hbS6) (pu_local (show m (Str.ofString "models") = _ from T2.mo) hbM6) (pu_local rfl hkv)) fun v e => by subst e; exact pu_tbool.mono fun c e => by rw [e]; rfl))
        (pu_orF (tr_not (P := fun c n' => n' = n17 ∧ c = false) (pu_test (PB := fun c => (!c) = false) (pu_lawSame (D := D6) (kk := k') hB (hR.le (by decide)) I6'.full.kno (by omega) G6' (pu_local (show m (Str.ofString "states") = _ from T2.st) hbS6) (pu_local (show m (Str.ofString "models") = _ from T2.mo) hbM6) (pu_local rfl hov)) fun v e => by subst e; exact pu_tbool.mono fun c e => by rw [e]; rfl)) pu_orE)) (sx_nil ?_)
      exact ⟨hIm6, D6, X6, { inv := I6', off := hI6, good := G6'.more (by omega) (by omega), ext := T2.ext.trans E26, le := hN, box := (show m (Str.ofString "box") = _ from T2.box), st := (show m (Str.ofString "states") = _ from T2.st), mo := (show m (Str.ofString "models") = _ from T2.mo) }⟩
    · obtain ⟨D2, X, T2⟩ := q
      have G := T2.good
      have I7 : Inv PySem.Challenge.rw_bq5015_01.row.prog w D2 (drop n [I]) := T2.inv.mono (onx_drop T2.off)
      have hc2 := G.c2
      have hc6' := G.c6
      have hbS : (Value.ref D.SL) = .ref D2.SL := by rw [T2.ext.SL]
      obtain ⟨_, o0, ho0, hh0⟩ := I7.cell fun σ R => (R (.e false)).1
      obtain ⟨_, o1, ho1, hh1⟩ := I7.cell fun σ R => (R (.e true)).1
      obtain ⟨σ, R, _⟩ := id I7
      have hne : (D2.e false).se ≠ (D2.e true).se := Rep.ne (R (.e false)).1 (R (.e true)).1 (by simp)
      have hL0 := G.nl 0 (by omega)
      have hL1 := G.nl 1 (by omega)
      refine sx_retPu (P := (· = .bool true)) (pu_Compare (pu_env hB (I7.kno.imp fun h i => rd_bs (D := D2) (k := 0) i (by omega)) (pu_state (D := D2) (k := 0) I7.kno (by omega) (by omega) (pu_local T2.st hbS) pu_int)) (pu_env hB (I7.kno.imp fun h i => rd_bs (D := D2) (k := 1) i (by omega)) (pu_state (D := D2) (k := 1) I7.kno (by omega) (by omega) (pu_local T2.st hbS) pu_int)) fun a c ha hc => ?_) fun v e => e
      rw [ha, hc, hL0.se, hL1.se, G.e0, G.e1]
      exact c_isNotOther hne (Kno.mem ho0) (Kno.mem ho1) (by obtain ⟨_, _, hx, _⟩ := hh0; rw [hx.1]; decide)
  · cases fl with
    | ret v =>
      obtain rfl : v = .bool true := e
      wrow_close
    | _ => cases e)
end Mine
theorem PySem.Challenge.cw_bq5015_01_holds : PySem.Challenge.rw_bq5015_01.Holds := by
  exact Mine.fin
