import PyProof.Rows.All
import Wide.All
import OpenK.AllK
import Wide.FinOn
import KE.KSortTup
import Lean
import PySem.Challenge.RW_oy0029_01
section
open PySem PySem.W PySem.W.X PyProof.Rows
set_option Elab.async false
set_option maxRecDepth 100000
namespace Mine

/-! ## heaps that only grow -/
/-- codes and their tables stay -/
noncomputable def Calm (h h' : Heap) : Prop := ∀ b o vs, h.get? b = some o → o.data = .fields vs → (o.cls = .none ∨ o.cls = .type "code") → h'.get? b = some o
/-- the tables that may grow; what holds of all tables; whether generators may be made -/
structure Tb where
  p : Addr → Prop
  ok : Heap → Prop
  st : ∀ h h', ok h → Calm h h' → ok h'
  loose : Prop
theorem Calm.of_keep {h h' : Heap} (k : ∀ b o, h.get? b = some o → h'.get? b = some o) : Calm h h' := fun b o _ e _ _ => k b o e
theorem Calm.refl (h : Heap) : Calm h h := fun _ _ _ e _ _ => e
theorem Calm.trans {h h' h'' : Heap} (a : Calm h h') (b : Calm h' h'') : Calm h h'' := fun c o vs e d q => b c o vs (a c o vs e d q) d q
/-- turned at objects that are no codes and no tables -/
theorem Calm.but {h h' : Heap} (X : Addr → Prop) (k : ∀ b o, ¬ X b → h.get? b = some o → h'.get? b = some o) (hx : ∀ b o vs, X b → h.get? b = some o → o.data = .fields vs → o.cls ≠ .none ∧ o.cls ≠ .type "code") : Calm h h' := fun b o vs e d q => by
  by_cases x : X b
  · obtain ⟨n1, n2⟩ := hx b o vs x e d
    rcases q with q | q <;> contradiction
  · exact k b o x e
/-- nothing outside X is turned, but code tables, which grow -/
noncomputable def ExtB (T : Tb) (X : Addr → Prop) (h h' : Heap) : Prop :=
  ∀ b o, ¬ X b → h.get? b = some o → h'.get? b = some o ∨ (T.p b ∧ ∃ ps more, o = tableObj ps ∧ h'.get? b = some (tableObj (ps ++ more)))
noncomputable abbrev NoX : Addr → Prop := fun _ => False
noncomputable abbrev Ext (T : Tb) (h h' : Heap) : Prop := ExtB T NoX h h'

section
variable {T : Tb} {X : Addr → Prop} {h h' h'' : Heap}
theorem ExtB.of_keep (k : ∀ b o, ¬ X b → h.get? b = some o → h'.get? b = some o) : ExtB T X h h' := fun b o hx e => .inl (k b o hx e)
theorem Ext.of_keep (k : ∀ b o, h.get? b = some o → h'.get? b = some o) : Ext T h h' := fun b o _ e => .inl (k b o e)
theorem ExtB.refl (h : Heap) : ExtB T X h h := fun _ _ _ e => .inl e
theorem ExtB.trans (a : ExtB T X h h') (b : ExtB T X h' h'') : ExtB T X h h'' := by
  intro c o hx e
  rcases a c o hx e with e' | ⟨t, ps, more, rfl, e'⟩
  · exact b c o hx e'
  · rcases b c _ hx e' with e'' | ⟨_, ps', more', eq, e''⟩
    · exact .inr ⟨t, ps, more, rfl, e''⟩
    · have : ps ++ more = ps' := by
        have := congrArg Obj.data eq
        simpa [tableObj] using this
      subst this
      exact .inr ⟨t, ps, more ++ more', rfl, by rw [e'', Array.append_assoc]⟩
theorem ExtB.mono {Y : Addr → Prop} (a : ExtB T X h h') (k : ∀ b, X b → Y b) : ExtB T Y h h' := fun b o hx e => a b o (fun y => hx (k b y)) e
theorem Ext.toB (a : Ext T h h') : ExtB T X h h' := ExtB.mono a fun _ f => f.elim
/-- what has a class stays -/
theorem ExtB.get (a : ExtB T X h h') {b : Addr} {o : Obj} (hx : ¬ X b) (e : h.get? b = some o) (hc : o.cls ≠ .none) : h'.get? b = some o := by
  rcases a b o hx e with e' | ⟨_, ps, more, rfl, _⟩
  · exact e'
  · exact absurd rfl hc
theorem Ext.get (a : Ext T h h') {b : Addr} {o : Obj} (e : h.get? b = some o) (hc : o.cls ≠ .none) : h'.get? b = some o := ExtB.get a (fun f => f) e hc
theorem ExtB.get_data (a : ExtB T X h h') {b : Addr} {o : Obj} (hx : ¬ X b) (e : h.get? b = some o) (hc : ∀ vs, o.data ≠ .fields vs) : h'.get? b = some o := by
  rcases a b o hx e with e' | ⟨_, ps, more, rfl, _⟩
  · exact e'
  · exact absurd rfl (hc ps)
theorem Ext.get_data (a : Ext T h h') {b : Addr} {o : Obj} (e : h.get? b = some o) (hc : ∀ vs, o.data ≠ .fields vs) : h'.get? b = some o := ExtB.get_data a (fun f => f) e hc
theorem ExtB.sameBut {a : Addr} (k : Heap.SameBut a h h') (hx : X a) : ExtB T X h h' := fun b o hb e => .inl ((k.2 b fun q => hb (q ▸ hx)).trans e)
theorem ExtB.push (o : Obj) : ExtB T X h (h.push o) := fun _ _ _ e => .inl (Heap.get?_push_of_some _ e)
/-- as the claim asks it -/
theorem Ext.oldK {l : List Addr} {n : Nat} (hT : ∀ b, T.p b → b < n → b ∈ l) (a : Ext T h h') (hn : h.objs.size ≤ n) (hl : ∀ b ∈ l, isCodeTable h b) : OldK h h' := by
  refine ⟨fun b o e => ?_, fun b o e => ?_⟩
  · rcases a b o (fun f => f) e with e' | ⟨t, ps, more, rfl, e'⟩
    · exact .inl e'
    · exact .inr (.inl ⟨hl b (hT b t (Nat.lt_of_lt_of_le (Heap.lt_size e) hn)), rfl, ps, more, rfl, e'⟩)
  · rcases a b o (fun f => f) e with e' | ⟨t, ps, more, rfl, e'⟩
    · exact ⟨_, e'⟩
    · exact ⟨_, e'⟩
end

/-- a later state -/
structure Lt (T : Tb) (X : Addr → Prop) (s s' : Shared) : Prop where
  ext : ExtB T X s.heap s'.heap
  gens : AllBare s.gens → AllBare s'.gens
  os : s'.os = s.os
  ok : T.ok s.heap → T.ok s'.heap
  same : ¬ T.loose → s'.gens = s.gens ∧ s'.drawn = s.drawn
section
variable {T : Tb} {X : Addr → Prop} {s s' s'' : Shared}
theorem Lt.refl (s : Shared) : Lt T X s s := ⟨.refl _, id, rfl, id, fun _ => ⟨rfl, rfl⟩⟩
theorem Lt.trans (a : Lt T X s s') (b : Lt T X s' s'') : Lt T X s s'' := ⟨a.ext.trans b.ext, fun g => b.gens (a.gens g), b.os.trans a.os, fun g => b.ok (a.ok g), fun g => ⟨(b.same g).1.trans (a.same g).1, (b.same g).2.trans (a.same g).2⟩⟩
theorem Lt.mono {Y : Addr → Prop} (a : Lt T X s s') (k : ∀ b, X b → Y b) : Lt T Y s s' := ⟨a.ext.mono k, a.gens, a.os, a.ok, a.same⟩
theorem Lt.toB (a : Lt T NoX s s') : Lt T X s s' := a.mono fun _ f => f.elim
theorem Lt.of_ext {h' : Heap} {tk : Nat} (k : ExtB T X s.heap h') (c : Calm s.heap h') : Lt T X s ⟨h', s.gens, s.drawn, tk, s.os⟩ := ⟨k, id, rfl, fun g => T.st _ _ g c, fun _ => ⟨rfl, rfl⟩⟩
theorem Lt.of_keep {h' : Heap} {tk : Nat} (k : ∀ b o, s.heap.get? b = some o → h'.get? b = some o) : Lt T X s ⟨h', s.gens, s.drawn, tk, s.os⟩ := .of_ext (.of_keep fun b o _ e => k b o e) (.of_keep k)
theorem Lt.toks {tk : Nat} : Lt T X s ⟨s.heap, s.gens, s.drawn, tk, s.os⟩ := .of_keep fun _ _ e => e
end

/-- room for n more frames -/
structure Rm (n : Nat) (A : Around) : Prop where
  hd : A.handled = none
  dp : A.depth + n < recursionLimit
  un : A.units + 100 * n < cLine
theorem Rm.le {n k : Nat} {A : Around} (r : Rm n A) (h : k ≤ n) : Rm k A := ⟨r.hd, Nat.lt_of_le_of_lt (Nat.add_le_add_left h _) r.dp, Nat.lt_of_le_of_lt (Nat.add_le_add_left (Nat.mul_le_mul_left _ h) _) r.un⟩
theorem Rm.deeper {n : Nat} {A : Around} {env : Env} (r : Rm (n + 1) A) : Rm n (A.deeper env) := ⟨r.hd, by have := r.dp; simp only [Around.deeper]; omega, by have := r.un; simp only [Around.deeper]; omega⟩
theorem Rm.in1 {n : Nat} {A : Around} (r : Rm (n + 1) A) : Rm n A.in1 := ⟨r.hd, by have := r.dp; simp only [Around.in1]; omega, by have := r.un; simp only [Around.in1]; omega⟩
theorem Rm.depth {n : Nat} {A : Around} (r : Rm n A) : A.depth < recursionLimit := Nat.lt_of_le_of_lt (Nat.le_add_right _ _) r.dp
theorem Rm.units {n : Nat} {A : Around} (r : Rm n A) : A.units < cLine := Nat.lt_of_le_of_lt (Nat.le_add_right _ _) r.un
theorem Rm.units64 {n : Nat} {A : Around} (r : Rm (n + 1) A) : A.units + 64 < cLine := Nat.lt_of_le_of_lt (Nat.add_le_add_left (Nat.le_trans (show 64 ≤ 100 * 1 by decide) (Nat.mul_le_mul_left 100 (Nat.succ_le_succ (Nat.zero_le n)))) _) r.un

/-! ## data -/
/-- plain data: no dicts -/
inductive Da where
  | none
  | bool (b : Bool)
  | int (i : Int)
  | str (s : Str)
  | list (l : List Da)
  | tup (l : List Da)
  | val (v : Value)
  | inst (a : Addr) (i : Int)

mutual
/-- data through and through -/
def Da.pure : Da → Bool
  | .none => true
  | .bool _ => true
  | .int _ => true
  | .str _ => true
  | .list l => Da.pures l
  | .tup l => Da.pures l
  | .val _ => false
  | .inst _ _ => false
def Da.pures : List Da → Bool
  | [] => true
  | d :: l => d.pure && Da.pures l
end
mutual
def Da.py : Da → PyData
  | .none => .none
  | .bool b => .bool b
  | .int i => .int i
  | .str s => .str s
  | .list l => .list (Da.pys l)
  | .tup l => .tuple (Da.pys l)
  | .val _ => .none
  | .inst _ _ => .none
def Da.pys : List Da → List PyData
  | [] => []
  | d :: l => d.py :: Da.pys l
end

mutual
/-- v is the data d, laid at addresses of V alone -/
inductive Dn (V : Addr → Prop) (h : Heap) : Value → Da → Prop
  | none : Dn V h .none .none
  | bool (b) : Dn V h (.bool b) (.bool b)
  | int (i t) : Dn V h (.int i t) (.int i)
  | str (x t) : Dn V h (.str x t) (.str x)
  | list {a items ds} : V a → h.PlainList a items → Dns V h items.toList ds → Dn V h (.ref a) (.list ds)
  | tup {a items ds} : V a → h.IsTuple a items → Dns V h items.toList ds → Dn V h (.ref a) (.tup ds)
  | val (v) : Dn V h v (.val v)
  | inst {x dx a i t} : V x → h.get? x = some { cls := .ref a, dict := some dx, data := .plain, slots := #[some (.int i t)] } → Dn V h (.ref x) (.inst a i)
inductive Dns (V : Addr → Prop) (h : Heap) : List Value → List Da → Prop
  | nil : Dns V h [] []
  | cons {v vs d ds} : Dn V h v d → Dns V h vs ds → Dns V h (v :: vs) (d :: ds)
end
noncomputable abbrev Tr : Addr → Prop := fun _ => True

/-- whatever holds items stays, at the addresses of V -/
noncomputable def Held (o : Obj) : Prop := (∃ vs n, o.data = .seq vs n) ∨ o.data = .plain
theorem Held.ne {o : Obj} (x : Held o) {d : Data} (e : o.data = d) (hd : (match d with | .seq .. => false | .plain => false | _ => true) = true) : False := by
  rcases x with ⟨_, _, z⟩ | z <;> rw [z] at e <;> subst e <;> cases hd
noncomputable def Kv (V : Addr → Prop) (h h' : Heap) : Prop := ∀ b o, V b → h.get? b = some o → Held o → h'.get? b = some o
theorem Kv.plain {V : Addr → Prop} {h h' : Heap} (k : Kv V h h') {a : Addr} {items : Array Value} (va : V a) (x : h.PlainList a items) : h'.PlainList a items := by obtain ⟨n, e⟩ := x; exact ⟨n, k a _ va e (.inl ⟨_, _, rfl⟩)⟩
theorem Kv.isTuple {V : Addr → Prop} {h h' : Heap} (k : Kv V h h') {a : Addr} {items : Array Value} (va : V a) (x : h.IsTuple a items) : h'.IsTuple a items := by obtain ⟨o, ho, hc, n, hd⟩ := x; exact ⟨o, k a o va ho (.inl ⟨_, _, hd⟩), hc, n, hd⟩
theorem Dn.kv {V : Addr → Prop} {h h' : Heap} (k : Kv V h h') {v : Value} {d : Da} (x : Dn V h v d) : Dn V h' v d :=
  Dn.rec (motive_1 := fun v d _ => Dn V h' v d) (motive_2 := fun vs ds _ => Dns V h' vs ds) .none .bool .int .str (fun va l _ r => .list va (k.plain va l) r) (fun va l _ r => .tup va (k.isTuple va l) r) .val (fun va e => .inst va (k _ _ va e (.inr rfl))) .nil (fun _ _ a b => .cons a b) x
theorem Dns.kv {V : Addr → Prop} {h h' : Heap} (k : Kv V h h') {vs : List Value} {ds : List Da} (x : Dns V h vs ds) : Dns V h' vs ds :=
  Dns.rec (motive_1 := fun v d _ => Dn V h' v d) (motive_2 := fun vs ds _ => Dns V h' vs ds) .none .bool .int .str (fun va l _ r => .list va (k.plain va l) r) (fun va l _ r => .tup va (k.isTuple va l) r) .val (fun va e => .inst va (k _ _ va e (.inr rfl))) .nil (fun _ _ a b => .cons a b) x
/-- other addresses, as long as they are all met -/
theorem Dn.at {V W : Addr → Prop} {h : Heap} (k : ∀ a, V a → h.get? a ≠ Option.none → W a) {v : Value} {d : Da} (x : Dn V h v d) : Dn W h v d :=
  Dn.rec (motive_1 := fun v d _ => Dn W h v d) (motive_2 := fun vs ds _ => Dns W h vs ds) .none .bool .int .str (fun va l _ r => .list (k _ va (by obtain ⟨n, e⟩ := l; rw [e]; exact fun z => by cases z)) l r)
    (fun va l _ r => .tup (k _ va (by obtain ⟨o, e, _⟩ := l; rw [e]; exact fun z => by cases z)) l r) .val (fun va e => .inst (k _ va (by rw [e]; exact fun z => by cases z)) e) .nil (fun _ _ a b => .cons a b) x
theorem Dns.at {V W : Addr → Prop} {h : Heap} (k : ∀ a, V a → h.get? a ≠ Option.none → W a) {vs : List Value} {ds : List Da} (x : Dns V h vs ds) : Dns W h vs ds :=
  Dns.rec (motive_1 := fun v d _ => Dn W h v d) (motive_2 := fun vs ds _ => Dns W h vs ds) .none .bool .int .str (fun va l _ r => .list (k _ va (by obtain ⟨n, e⟩ := l; rw [e]; exact fun z => by cases z)) l r)
    (fun va l _ r => .tup (k _ va (by obtain ⟨o, e, _⟩ := l; rw [e]; exact fun z => by cases z)) l r) .val (fun va e => .inst (k _ va (by rw [e]; exact fun z => by cases z)) e) .nil (fun _ _ a b => .cons a b) x
theorem Ext.kv {T : Tb} {V : Addr → Prop} {h h' : Heap} (a : Ext T h h') : Kv V h h' := fun b o _ e hd => Ext.get_data a e fun vs' q => hd.ne q rfl
theorem Dn.reads {V : Addr → Prop} {h : Heap} {v : Value} {d : Da} (x : Dn V h v d) : d.pure = true → ∃ as, Reads h v d.py as := by
  refine Dn.rec (motive_1 := fun v d _ => d.pure = true → ∃ as, Reads h v d.py as) (motive_2 := fun vs ds _ => Da.pures ds = true → ∃ as, ReadsAll h vs (Da.pys ds) as) ?_ ?_ ?_ ?_ ?_ ?_ ?_ ?_ ?_ ?_ x
  · exact fun _ => ⟨_, .none⟩
  · exact fun b _ => ⟨_, .bool b⟩
  · exact fun i t _ => ⟨_, .int i t⟩
  · exact fun x t _ => ⟨_, .str x t⟩
  · intro a items ds _ l r ih p
    rw [Da.pure] at p
    obtain ⟨as, ra⟩ := ih p
    obtain ⟨o, ho, hc, n, hd⟩ := l.isList
    have z : Reads h (.ref _) (.list (Da.pys ds)) _ := .list ho hc hd ra
    exact ⟨_, by rw [Da.py]; exact z⟩
  · intro a items ds _ l r ih p
    rw [Da.pure] at p
    obtain ⟨as, ra⟩ := ih p
    obtain ⟨o, ho, hc, n, hd⟩ := l
    have z : Reads h (.ref _) (.tuple (Da.pys ds)) _ := .tuple ho hc hd ra
    exact ⟨_, by rw [Da.py]; exact z⟩
  · intro v p
    rw [Da.pure] at p; cases p
  · intro x dx a i t _ _ p
    rw [Da.pure] at p; cases p
  · exact fun _ => ⟨_, by rw [Da.pys]; exact .nil⟩
  · intro v vs d ds a b iha ihb p
    rw [Da.pures, Bool.and_eq_true] at p
    obtain ⟨as, ra⟩ := iha p.1
    obtain ⟨bs, rb⟩ := ihb p.2
    exact ⟨_, by rw [Da.pys]; exact .cons ra rb⟩
section
variable {V : Addr → Prop} {h : Heap}
theorem Dns.ind {P : List Value → List Da → Prop} (n : P [] []) (c : ∀ v vs d ds, Dn V h v d → Dns V h vs ds → P vs ds → P (v :: vs) (d :: ds)) {vs : List Value} {ds : List Da} (x : Dns V h vs ds) : P vs ds := by
  induction vs generalizing ds with
  | nil => cases x; exact n
  | cons v vs ih => cases x with | cons a b => exact c _ _ _ _ a b (ih b)
theorem Dns.mapInd {α : Type} (f : α → Da) {P : List Value → List α → Prop} (n : P [] []) (c : ∀ v vs a as, Dn V h v (f a) → P vs as → P (v :: vs) (a :: as)) {vs : List Value} {as : List α} (x : Dns V h vs (as.map f)) : P vs as := by
  induction as generalizing vs with
  | nil => cases x; exact n
  | cons a as ih => cases x with | cons p q => exact c _ _ _ _ p (ih q)
theorem Dns.length {vs : List Value} {ds : List Da} (x : Dns V h vs ds) : vs.length = ds.length :=
  Dns.ind (P := fun vs ds => vs.length = ds.length) rfl (fun _ _ _ _ _ _ e => congrArg (· + 1) e) x
theorem Dns.get {vs : List Value} {ds : List Da} (x : Dns V h vs ds) {i : Nat} {d : Da} (e : ds[i]? = some d) : ∃ v, vs[i]? = some v ∧ Dn V h v d :=
  Dns.ind (P := fun vs ds => ∀ i d, ds[i]? = some d → ∃ v, vs[i]? = some v ∧ Dn V h v d) (fun _ _ e => by rw [List.getElem?_nil] at e; cases e)
    (fun v _ _ _ a _ ih i d' e => match i, e with
      | 0, e => ⟨v, rfl, Option.some.inj e ▸ a⟩
      | i + 1, e => ih i d' e) x i d e
theorem Dns.get' {vs : List Value} {ds : List Da} (x : Dns V h vs ds) {i : Nat} {v : Value} (e : vs[i]? = some v) : ∃ d, ds[i]? = some d ∧ Dn V h v d :=
  Dns.ind (P := fun vs ds => ∀ i v, vs[i]? = some v → ∃ d, ds[i]? = some d ∧ Dn V h v d) (fun _ _ e => by rw [List.getElem?_nil] at e; cases e)
    (fun _ _ d _ a _ ih i v' e => match i, e with
      | 0, e => ⟨d, rfl, Option.some.inj e ▸ a⟩
      | i + 1, e => ih i v' e) x i v e
theorem Dns.append {vs ws : List Value} {ds es : List Da} (x : Dns V h vs ds) (y : Dns V h ws es) : Dns V h (vs ++ ws) (ds ++ es) :=
  Dns.ind (P := fun vs ds => Dns V h (vs ++ ws) (ds ++ es)) y (fun _ _ _ _ a _ ih => .cons a ih) x
theorem Dns.snoc {vs : List Value} {ds : List Da} {v : Value} {d : Da} (x : Dns V h vs ds) (y : Dn V h v d) : Dns V h (vs ++ [v]) (ds ++ [d]) := Dns.append x (.cons y .nil)
theorem Dns.take {vs : List Value} {ds : List Da} (n : Nat) (x : Dns V h vs ds) : Dns V h (vs.take n) (ds.take n) :=
  Dns.ind (P := fun vs ds => ∀ n : Nat, Dns V h (vs.take n) (ds.take n)) (fun _ => by rw [List.take_nil, List.take_nil]; exact .nil) (fun _ _ _ _ a _ ih n => match n with
    | 0 => .nil
    | n + 1 => .cons a (ih n)) x n
theorem Dns.drop {vs : List Value} {ds : List Da} (n : Nat) (x : Dns V h vs ds) : Dns V h (vs.drop n) (ds.drop n) :=
  Dns.ind (P := fun vs ds => ∀ n : Nat, Dns V h (vs.drop n) (ds.drop n)) (fun _ => by rw [List.drop_nil, List.drop_nil]; exact .nil) (fun _ _ _ _ a b ih n => match n with
    | 0 => .cons a b
    | n + 1 => ih n) x n
end
theorem Ext.back {T : Tb} {h h' : Heap} (a : Ext T h h') {b : Addr} (e : h'.get? b = none) : h.get? b = none := by
  cases q : h.get? b with
  | none => rfl
  | some o => rcases a b o (fun f => f) q with x | ⟨_, _, _, _, x⟩ <;> rw [e] at x <;> cases x
theorem get_none_of_size {h : Heap} {b : Addr} (e : h.objs.size ≤ b) : h.get? b = none := by
  cases q : h.get? b with
  | none => rfl
  | some o => exact absurd (Heap.lt_size q) (Nat.not_lt.mpr e)
/-- what follows, under one letter (a long goal is written anew at every depth of a proof) -/
theorem wpost {M : Model} {A : Around} {α : Type} {x : Sem α} {Q : α → Shared → Prop} {E : Value → Shared → Prop} {s : Shared} (h : ∀ (Q' : α → Shared → Prop) (E' : Value → Shared → Prop), (∀ v s', Q v s' → Q' v s') → (∀ v s', E v s' → E' v s') → wpAny M A x Q' E' s) : wpAny M A x Q E s := h Q E (fun _ _ z => z) fun _ _ z => z
/-- what follows a step, named: its parts need not be written again below two binders -/
noncomputable def Kp {α β : Type} (M : Model) (A : Around) (f : α → Sem β) (Q : β → Shared → Prop) (E : Value → Shared → Prop) : α → Shared → Prop := fun v s => wpAny M A (f v) Q E s
theorem wpa_bindK {M : Model} {A : Around} {α β : Type} {m : Sem α} {f : α → Sem β} {Q : β → Shared → Prop} {E : Value → Shared → Prop} {s : Shared} (h : wpAny M A m (Kp M A f Q E) E s) : wpAny M A (m >>= f) Q E s := wpAny_bind h
theorem kp_out {M : Model} {A : Around} {α β : Type} {f : α → Sem β} {Q : β → Shared → Prop} {E : Value → Shared → Prop} {v : α} {s : Shared} (h : wpAny M A (f v) Q E s) : Kp M A f Q E v s := h
theorem turn_lt {N j : Nat} (h : j < N) : N + 1 - (j + 1) < N + 1 - j := Nat.sub_lt_sub_left (Nat.lt_succ_of_lt h) (Nat.lt_succ_self j)
end Mine
end
section
open PySem PySem.W PySem.W.X PyProof.Rows PySem.Calls
set_option Elab.async false
set_option maxRecDepth 100000
namespace Mine

structure Cx where
  prog : Program
  w : World
  T : Tb
  mg : Str → Option Value
  mb : Str → Option Value

noncomputable abbrev Pr := (Addr → Prop) → Value → Heap → Prop
noncomputable abbrev Cx.M (κ : Cx) : Model := model κ.prog κ.w
noncomputable def Gv (κ : Cx) (V : Addr → Prop) (A : Around) (t : Sem Value) (s : Shared) (P : Pr) : Prop :=
  wpAny κ.M A t (fun v s' => P V v s'.heap ∧ Lt κ.T NoX s s') (fun _ _ => False) s
/-- a state from h on; V: what h has, and what is not yet -/
structure At (κ : Cx) (h : Heap) (V : Addr → Prop) (s : Shared) : Prop where
  ext : Ext κ.T h s.heap
  tk : 0 < s.toks
  ok : κ.T.ok s.heap
  vis : ∀ a, h.get? a ≠ none ∨ s.heap.get? a = none → V a
noncomputable def Ev (κ : Cx) (n : Nat) (env : Env) (h : Heap) (e : Expr) (P : Pr) : Prop :=
  ∀ A s V, Rm n A → At κ h V s → Gv κ V A (eval e env) s P
noncomputable def Per (κ : Cx) (P : Pr) : Prop := ∀ V v h h', Ext κ.T h h' → P V v h → P V v h'
noncomputable abbrev Is (d : Da) : Pr := fun V v h => Dn V h v d
noncomputable abbrev Vl (v : Value) : Pr := fun _ v' _ => v' = v

variable {κ : Cx} {n : Nat} {env : Env} {h : Heap} {A : Around} {s : Shared} {V : Addr → Prop}

theorem Is.per {d : Da} : Per κ (Is d) := fun _ _ _ _ e x => x.kv (Ext.kv e)
theorem Vl.per {v : Value} : Per κ (Vl v) := fun _ _ _ _ _ x => x
theorem At.up {h' : Heap} (k : Ext κ.T h h') (a : At κ h' V s) : At κ h V s := ⟨k.trans a.ext, a.tk, a.ok, fun b x => a.vis b (x.imp (fun e z => e (Ext.back k z)) id)⟩
theorem At.on {s' : Shared} (a : At κ h V s) (l : Lt κ.T NoX s s') (t : 0 < s'.toks) : At κ h V s' := ⟨a.ext.trans l.ext, t, l.ok a.ok, fun b x => a.vis b (x.imp id fun e => Ext.back l.ext e)⟩
theorem At.self (t : 0 < s.toks) (o : κ.T.ok s.heap) : At κ s.heap Tr s := ⟨.refl _, t, o, fun _ _ => trivial⟩

theorem Gv.of {t : Sem Value} {P : Pr} (x : wpAny κ.M A t (fun v s' => P V v s'.heap ∧ Lt κ.T NoX s s') (fun _ _ => False) s) : Gv κ V A t s P := x
/-- chained -/
theorem Gv.go {t : Sem Value} {P : Pr} (x : Gv κ V A t s P) (y : At κ h V s) {Q : Value → Shared → Prop} {E : Value → Shared → Prop} (k : ∀ v s', P V v s'.heap → Lt κ.T NoX s s' → At κ h V s' → Q v s') : wpAny κ.M A t Q E s :=
  wpAny_mono (wpAny_toks_of y.tk x) (fun v s' q => k v s' q.2.1 q.2.2 (y.on q.2.2 q.1)) fun _ _ f => f.2.elim
theorem Ev.go {e : Expr} {P : Pr} (x : Ev κ n env h e P) (rm : Rm n A) (y : At κ h V s) {Q : Value → Shared → Prop} {E : Value → Shared → Prop} (k : ∀ v s', P V v s'.heap → Lt κ.T NoX s s' → At κ h V s' → Q v s') : wpAny κ.M A (eval e env) Q E s :=
  (x A s V rm y).go y k
/-- from a later state -/
theorem Gv.after {t : Sem Value} {P : Pr} {s₀ : Shared} (x : Gv κ V A t s P) (l : Lt κ.T NoX s₀ s) :
    wpAny κ.M A t (fun v s' => P V v s'.heap ∧ Lt κ.T NoX s₀ s') (fun _ _ => False) s :=
  wpAny_mono x (fun _ _ q => ⟨q.1, l.trans q.2⟩) fun _ _ f => f
theorem Gv.mono {t : Sem Value} {P Q : Pr} (x : Gv κ V A t s P) (k : ∀ V v h, P V v h → Q V v h) : Gv κ V A t s Q :=
  wpAny_mono x (fun _ _ q => ⟨k _ _ _ q.1, q.2⟩) fun _ _ f => f
theorem Ev.mono {e : Expr} {P Q : Pr} (x : Ev κ n env h e P) (k : ∀ V v h, P V v h → Q V v h) : Ev κ n env h e Q := fun A s V r y => (x A s V r y).mono k
theorem Ev.up {e : Expr} {P : Pr} {h' : Heap} (x : Ev κ n env h e P) (k : Ext κ.T h h') : Ev κ n env h' e P := fun A s V r y => x A s V r (y.up k)
theorem Ev.le {e : Expr} {P : Pr} {m : Nat} (x : Ev κ n env h e P) (k : n ≤ m) : Ev κ m env h e P := fun A s V r y => x A s V (r.le k) y

/-! ## constants, names -/
theorem ev_int {i : Int} {k pos} : Ev κ n env h (.Constant (.int i) k pos) (Is (.int i)) := fun _ _ _ _ _ => wpAny_Constant_int ⟨.int _ _, .toks⟩
theorem ev_str {x : Str} {k pos} : Ev κ n env h (.Constant (.str x) k pos) (Is (.str x)) := fun _ _ _ _ _ => wpAny_Constant_str ⟨.str _ _, .toks⟩
theorem ev_bool {b : Bool} {k pos} : Ev κ n env h (.Constant (.bool b) k pos) (Is (.bool b)) := fun _ s _ _ _ => wpAny_Constant_bool ⟨.bool _, .refl s⟩
theorem ev_none {k pos} : Ev κ n env h (.Constant .none k pos) (Is .none) := fun _ s _ _ _ => wpAny_Constant_none ⟨.none, .refl s⟩

/-- the name x reads v, from h on -/
noncomputable def Vr (κ : Cx) (h : Heap) (env : Env) (x : Str) (v : Value) : Prop :=
  ∀ (A : Around) (E : Value → Shared → Prop) (Q : Value → Shared → Prop) (s : Shared), Ext κ.T h s.heap → Q v s → wpAny κ.M A (loadName env x) Q E s
theorem Vr.up {x : Str} {v : Value} {h' : Heap} (a : Vr κ h env x v) (k : Ext κ.T h h') : Vr κ h' env x v := fun A E Q s y q => a A E Q s (k.trans y) q
theorem ev_name {x : Str} {pos : Pos} {v : Value} {P : Pr} (a : Vr κ h env x v) (p : ∀ V, (∀ a, h.get? a ≠ none → V a) → P V v h) (pp : Per κ P) (hd : (x == ("__debug__" : Str)) = false := by decide) : Ev κ n env h (.Name x pos) P :=
  fun A s V _ y => wpAny_Name (a A _ _ s y.ext ⟨pp _ _ _ _ y.ext (p V fun b e => y.vis b (.inl e)), .refl s⟩) hd
theorem ev_var {x : Str} {pos : Pos} {v : Value} {d : Da} {W : Addr → Prop} (a : Vr κ h env x v) (p : Dn W h v d) (hd : (x == ("__debug__" : Str)) = false := by decide) : Ev κ n env h (.Name x pos) (Is d) :=
  ev_name a (fun _ k => p.at fun b _ e => k b e) Is.per hd

/-! ## two operands -/
theorem ev_bin {l r : Expr} {o : Operator} {pos : Pos} {P1 P2 P : Pr} (h1 : Ev κ n env h l P1) (p1 : Per κ P1) (h2 : Ev κ n env h r P2)
    (op : ∀ A s V a b, Rm n A → P1 V a s.heap → P2 V b s.heap → Gv κ V A (binaryOp o a b) s P) : Ev κ n env h (.BinOp l o r pos) P := by
  intro A s V rm y
  refine wpAny_BinOp (h1.go rm y fun a s1 pa l1 y1 => h2.go rm y1 fun b s2 pb l2 y2 => ?_)
  exact (op A s2 V a b rm (p1 _ _ _ _ l2.ext pa) pb).after (l1.trans l2)
theorem ev_cmp {l r : Expr} {o : CmpOp} {pos : Pos} {P1 P2 P : Pr} (h1 : Ev κ n env h l P1) (p1 : Per κ P1) (h2 : Ev κ n env h r P2)
    (op : ∀ A s V a b, Rm n A → P1 V a s.heap → P2 V b s.heap → Gv κ V A (compareOp o a b) s P) (hm : behindInMarks o r = false := by with_unfolding_all rfl) : Ev κ n env h (.Compare l [o] [r] pos) P := by
  intro A s V rm y
  refine wpAny_Compare1 (h1.go rm y fun a s1 pa l1 y1 => h2.go rm y1 fun b s2 pb l2 y2 => ?_) hm
  exact (op A s2 V a b rm (p1 _ _ _ _ l2.ext pa) pb).after (l1.trans l2)

theorem ev_add_int {l r : Expr} {pos : Pos} {a b : Int} (h1 : Ev κ n env h l (Is (.int a))) (h2 : Ev κ n env h r (Is (.int b))) : Ev κ n env h (.BinOp l .Add r pos) (Is (.int (a + b))) :=
  ev_bin h1 Is.per h2 fun _ _ _ _ _ _ x y => by cases x; cases y; exact add_int ⟨.int _ _, .toks⟩
theorem ev_sub_int {l r : Expr} {pos : Pos} {a b : Int} (h1 : Ev κ n env h l (Is (.int a))) (h2 : Ev κ n env h r (Is (.int b))) : Ev κ n env h (.BinOp l .Sub r pos) (Is (.int (a - b))) :=
  ev_bin h1 Is.per h2 fun _ _ _ _ _ _ x y => by cases x; cases y; exact sub_int ⟨.int _ _, .toks⟩
theorem ev_div_int {l r : Expr} {pos : Pos} {a b : Int} (h1 : Ev κ n env h l (Is (.int a))) (h2 : Ev κ n env h r (Is (.int b))) (hb : b ≠ 0) (hp : Builtin.divisionGoesByPylong a b = false) : Ev κ n env h (.BinOp l .FloorDiv r pos) (Is (.int (a.fdiv b))) :=
  ev_bin h1 Is.per h2 fun _ _ _ _ _ _ x y => by cases x; cases y; exact floordiv_int hb ⟨.int _ _, .toks⟩ (.inl hp)
theorem ev_mod_int {l r : Expr} {pos : Pos} {a b : Int} (h1 : Ev κ n env h l (Is (.int a))) (h2 : Ev κ n env h r (Is (.int b))) (hb : b ≠ 0) : Ev κ n env h (.BinOp l .Mod r pos) (Is (.int (a.fmod b))) :=
  ev_bin h1 Is.per h2 fun _ _ _ _ _ _ x y => by cases x; cases y; exact mod_int' hb ⟨.int _ _, .toks⟩
theorem ev_pow_int {l r : Expr} {pos : Pos} {a b : Int} (h1 : Ev κ n env h l (Is (.int a))) (h2 : Ev κ n env h r (Is (.int b))) (hb : 0 ≤ b) (hb2 : b ≤ 1000000) (ha : a.natAbs < 2 ^ 64) : Ev κ n env h (.BinOp l .Pow r pos) (Is (.int (a ^ b.toNat))) :=
  ev_bin h1 Is.per h2 fun _ _ _ _ _ _ x y => by cases x; cases y; exact pow_int_small hb hb2 ha ⟨.int _ _, .toks⟩
theorem ev_add_str {l r : Expr} {pos : Pos} {a b : Str} (h1 : Ev κ n env h l (Is (.str a))) (h2 : Ev κ n env h r (Is (.str b))) (hz : a.length + b.length ≤ sizeLine) : Ev κ n env h (.BinOp l .Add r pos) (Is (.str (a ++ b))) :=
  ev_bin h1 Is.per h2 fun _ _ _ _ _ _ x y => by cases x; cases y; exact add_str (fun _ _ => ⟨.str _ _, .toks⟩) hz

theorem ev_eq_int {l r : Expr} {pos : Pos} {a b : Int} (h1 : Ev κ n env h l (Is (.int a))) (h2 : Ev κ n env h r (Is (.int b))) (hm : behindInMarks .Eq r = false := by with_unfolding_all rfl) : Ev κ n env h (.Compare l [.Eq] [r] pos) (Is (.bool (a == b))) :=
  ev_cmp h1 Is.per h2 (fun _ s _ _ _ _ x y => by cases x; cases y; exact eq_int ⟨.bool _, .refl s⟩) hm
/-- == and != of any data -/
theorem ev_eq {l r : Expr} {pos : Pos} {a b : Da} (h1 : Ev κ (n + 1) env h l (Is a)) (h2 : Ev κ (n + 1) env h r (Is b)) (ha : SeqAt.shaped a.py = true) (hb : SeqAt.shaped b.py = true) (qa : a.pure = true) (qb : b.pure = true) (hm : behindInMarks .Eq r = false := by with_unfolding_all rfl) : Ev κ (n + 1) env h (.Compare l [.Eq] [r] pos) (Is (.bool (PyData.eqv a.py b.py))) :=
  ev_cmp h1 Is.per h2 (fun _ s _ _ _ rm x y => by
    obtain ⟨_, ra⟩ := x.reads qa
    obtain ⟨_, rb⟩ := y.reads qb
    exact SeqAt.compareEq_shaped ra rb ha hb rm.units64 ⟨.bool _, .refl s⟩) hm
/-! ## arguments -/
noncomputable def EvL (κ : Cx) (n : Nat) (env : Env) (h : Heap) (es : List Expr) (P : (Addr → Prop) → List Value → Heap → Prop) : Prop :=
  ∀ pos A s V, Rm n A → At κ h V s → wpAny κ.M A (spliced (backTo pos (starEach es env))) (fun vs s' => P V vs s'.heap ∧ Lt κ.T NoX s s') (fun _ _ => False) s
theorem EvL.go {es : List Expr} {P : (Addr → Prop) → List Value → Heap → Prop} (x : EvL κ n env h es P) (pos : Pos) (rm : Rm n A) (y : At κ h V s) {Q : List Value → Shared → Prop} {E : Value → Shared → Prop} (k : ∀ v s', P V v s'.heap → Lt κ.T NoX s s' → At κ h V s' → Q v s') : wpAny κ.M A (spliced (backTo pos (starEach es env))) Q E s :=
  wpAny_mono (wpAny_toks_of y.tk (x pos A s V rm y)) (fun v s' q => k v s' q.2.1 q.2.2 (y.on q.2.2 q.1)) fun _ _ f => f.2.elim
theorem evl_nil : EvL κ n env h [] (fun _ vs _ => vs = []) := fun _ _ s _ _ _ => spliced_nil ⟨rfl, .refl s⟩
theorem evl_cons {e : Expr} {es : List Expr} {P : Pr} {Ps : (Addr → Prop) → List Value → Heap → Prop} (a : Ev κ n env h e P) (p : Per κ P) (b : EvL κ n env h es Ps)
    (he : ∀ pos, backTo pos (starEach (e :: es) env) = (false, eval e env) :: backTo pos (starEach es env) := by intro _; rfl) :
    EvL κ n env h (e :: es) (fun V vs h' => ∃ v vs', vs = v :: vs' ∧ P V v h' ∧ Ps V vs' h') := by
  intro pos A s V rm y
  rw [he]
  refine spliced_cons (a.go rm y fun v s1 pv l1 y1 => b.go pos rm y1 fun vs s2 pvs l2 y2 => ?_)
  exact ⟨⟨v, vs, rfl, p _ _ _ _ l2.ext pv, pvs⟩, l1.trans l2⟩
noncomputable def Iss (ds : List Da) : (Addr → Prop) → List Value → Heap → Prop := fun V vs h => Dns V h vs ds
theorem evl_is_nil : EvL κ n env h [] (Iss []) := fun _ _ s _ _ _ => spliced_nil ⟨.nil, .refl s⟩
theorem evl_is {e : Expr} {es : List Expr} {d : Da} {ds : List Da} (a : Ev κ n env h e (Is d)) (b : EvL κ n env h es (Iss ds))
    (he : ∀ pos, backTo pos (starEach (e :: es) env) = (false, eval e env) :: backTo pos (starEach es env) := by intro _; rfl) : EvL κ n env h (e :: es) (Iss (d :: ds)) :=
  fun pos A s V rm y => wpAny_mono (evl_cons a Is.per b he pos A s V rm y) (fun _ _ q => by obtain ⟨⟨v, vs, rfl, p1, p2⟩, l⟩ := q; exact ⟨.cons p1 p2, l⟩) fun _ _ f => f

/-! ## displays -/
theorem Lt.newObj {T : Tb} {X : Addr → Prop} {s : Shared} {o : Obj} : Lt T X s { s with heap := s.heap.push o } := .of_keep fun _ _ e => Heap.get?_push_of_some _ e
theorem ev_list {es : List Expr} {pos : Pos} {ds : List Da} (a : EvL κ n env h es (Iss ds)) (hz : ds.length ≤ sizeLine) : Ev κ n env h (.List es pos) (Is (.list ds)) := by
  intro A s V rm y
  refine List_ (a.go pos rm y fun vs s1 p l y1 => ?_)
  refine wpAny_newObj_type ?_ (by show vs.toArray.size ≤ sizeLine; rw [List.size_toArray, Dns.length p]; exact hz)
  refine ⟨.list (items := vs.toArray) (y1.vis _ (.inr (get_none_of_size (Nat.le_refl _)))) ⟨_, Heap.get?_push_size _ rfl⟩ ?_, l.trans .newObj⟩
  exact Dns.kv (Ext.kv (T := κ.T) (ExtB.push _)) p
theorem ev_tup {es : List Expr} {k : Nat} {pos : Pos} {ds : List Da} (a : EvL κ n env h es (Iss ds)) (hz : ds.length ≤ sizeLine) : Ev κ n env h (.Tuple es k pos) (Is (.tup ds)) := by
  intro A s V rm y
  refine Tuple_ (a.go pos rm y fun vs s1 p l y1 => ?_)
  refine wpAny_newObj_type ?_ (by show vs.toArray.size ≤ sizeLine; rw [List.size_toArray, Dns.length p]; exact hz)
  refine ⟨.tup (items := vs.toArray) (y1.vis _ (.inr (get_none_of_size (Nat.le_refl _)))) ⟨_, Heap.get?_push_size _ rfl, rfl, _, rfl⟩ ?_, l.trans .newObj⟩
  exact Dns.kv (Ext.kv (T := κ.T) (ExtB.push _)) p
end Mine
end
section
open PySem PySem.W PySem.W.X PyProof.Rows PySem.Calls
set_option Elab.async false
set_option maxRecDepth 100000
namespace Mine
variable {κ : Cx} {n : Nat} {env : Env} {h : Heap} {A : Around} {s : Shared} {V : Addr → Prop}

/-! ## names and frames -/
theorem ns_ext {T : Tb} {h h' : Heap} {a : Addr} {m : Str → Option Value} (k : Ext T h h') (x : h.Ns a m) : h'.Ns a m :=
  by obtain ⟨o, es, ep, e, hd, r⟩ := x; exact ⟨o, es, ep, Ext.get_data k e fun vs q => (by rw [hd] at q; cases q), hd, r⟩
theorem ns_extB {T : Tb} {X : Addr → Prop} {h h' : Heap} {a : Addr} {m : Str → Option Value} (k : ExtB T X h h') (hx : ¬ X a) (x : h.Ns a m) : h'.Ns a m :=
  by obtain ⟨o, es, ep, e, hd, r⟩ := x; exact ⟨o, es, ep, ExtB.get_data k hx e fun vs q => (by rw [hd] at q; cases q), hd, r⟩
theorem cell_ext {T : Tb} {h h' : Heap} {a : Addr} {v : Option Value} (k : Ext T h h') (x : h.IsCell a v) : h'.IsCell a v :=
  by obtain ⟨o, e, hd⟩ := x; exact ⟨o, Ext.get_data k e fun vs q => (by rw [hd] at q; cases q), hd⟩
theorem cell_extB {T : Tb} {X : Addr → Prop} {h h' : Heap} {a : Addr} {v : Option Value} (k : ExtB T X h h') (hx : ¬ X a) (x : h.IsCell a v) : h'.IsCell a v :=
  by obtain ⟨o, e, hd⟩ := x; exact ⟨o, ExtB.get_data k hx e fun vs q => (by rw [hd] at q; cases q), hd⟩

structure Base (κ : Cx) (h : Heap) : Prop where
  g : h.Ns mainGlobals κ.mg
  b : h.Ns builtinsNs κ.mb
  lim : h.NoLimit
theorem Base.ext {h' : Heap} (x : Base κ h) (k : Ext κ.T h h') : Base κ h' := ⟨ns_ext k x.g, ns_ext k x.b, by obtain ⟨mc, a, e⟩ := x.lim; exact ⟨mc, ns_ext k a, e⟩⟩

/-- a frame: its names (locals and cells) read as ρ says -/
structure Fm (κ : Cx) (h : Heap) (env : Env) (ρ : Str → Option Value) : Prop where
  base : Base κ h
  kind : env.scope.kind = .function
  glob : env.globals = mainGlobals
  blt : env.builtins = builtinsNs
  ns : ∃ m, h.Ns env.locals m ∧ ∀ x v, env.kindOf x = some .local → ρ x = some v → m x = some v
  cl : ∀ x a, env.cells.lookup x = some a → ∃ u, h.IsCell a u ∧ ∀ v, env.kindOf x ≠ some .local → ρ x = some v → u = some v
theorem Fm.ext {ρ : Str → Option Value} {h' : Heap} (x : Fm κ h env ρ) (k : Ext κ.T h h') : Fm κ h' env ρ :=
  ⟨x.base.ext k, x.kind, x.glob, x.blt, by obtain ⟨m, a, b⟩ := x.ns; exact ⟨m, ns_ext k a, b⟩, fun y a e => by obtain ⟨v, p, q⟩ := x.cl y a e; exact ⟨v, cell_ext k p, q⟩⟩

/-- where a name of a frame lies -/
noncomputable def Lies (env : Env) (x : Str) : Prop := env.kindOf x = some .local ∨ (env.kindOf x = some .cell ∧ (env.cells.lookup x).isSome = true) ∨ (env.kindOf x = some .free ∧ (env.cells.lookup x).isSome = true ∧ (x == ("__classdict__" : Str)) = false)
theorem vr_of {ρ : Str → Option Value} {x : Str} {v : Value} (F : Fm κ h env ρ) (hv : ρ x = some v) (hl : Lies env x) : Vr κ h env x v := fun A E Q s y q => by
  rcases hl with hk | ⟨hk, ha⟩ | ⟨hk, ha, hd⟩
  · obtain ⟨m, hn, hm⟩ := F.ns
    exact wpAny_loadName_local F.kind hk (ns_ext y hn) (hm x v hk hv) q
  · obtain ⟨a, ha⟩ := Option.isSome_iff_exists.mp ha
    obtain ⟨u, p, r⟩ := F.cl x a ha
    obtain rfl := r v (by rw [hk]; exact fun z => by cases z) hv
    exact wpAny_loadName_cell F.kind hk ha (cell_ext y p) q
  · obtain ⟨a, ha⟩ := Option.isSome_iff_exists.mp ha
    obtain ⟨u, p, r⟩ := F.cl x a ha
    obtain rfl := r v (by rw [hk]; exact fun z => by cases z) hv
    exact wpAny_loadName_free F.kind hk ha (cell_ext y p) q hd
theorem vr_glob {ρ : Str → Option Value} {x : Str} {v : Value} (F : Fm κ h env ρ) (hk : env.kindOf x = some .globalImplicit) (hv : κ.mg x = some v) : Vr κ h env x v :=
  fun A E Q s y q => by
    unfold loadName
    simp only [Env.blockKind, F.kind, hk, ScopeKind.isAnnotationScope, Bool.false_and, Bool.false_eq_true, if_false]
    exact loadGlobal_global (by rw [F.glob]; exact ns_ext y F.base.g) hv q
theorem vr_blt {ρ : Str → Option Value} {x : Str} {v : Value} (F : Fm κ h env ρ) (hk : env.kindOf x = some .globalImplicit) (hg : κ.mg x = none) (hv : κ.mb x = some v) : Vr κ h env x v :=
  fun A E Q s y q => by
    unfold loadName
    simp only [Env.blockKind, F.kind, hk, ScopeKind.isAnnotationScope, Bool.false_and, Bool.false_eq_true, if_false]
    exact loadGlobal_builtin (by rw [F.glob]; exact ns_ext y F.base.g) hg (by rw [F.blt]; exact ns_ext y F.base.b) hv q

/-! ## calls -/
/-- what a call gives: from h on, with arguments as Pa says -/
noncomputable def Fun (κ : Cx) (n : Nat) (h : Heap) (f : Value) (Pa : (Addr → Prop) → List Value → Heap → Prop) (P : Pr) : Prop :=
  ∀ A s V vs, Rm n A → At κ h V s → Pa V vs s.heap → Gv κ V A (call f vs) s P
theorem Fun.up {f : Value} {Pa : (Addr → Prop) → List Value → Heap → Prop} {P : Pr} {h' : Heap} (x : Fun κ n h f Pa P) (k : Ext κ.T h h') : Fun κ n h' f Pa P := fun A s V vs r y => x A s V vs r (y.up k)
theorem ev_call_b {f : Str} {p pos : Pos} {e : Expr} {es : List Expr} {id : String} {Pa : (Addr → Prop) → List Value → Heap → Prop} {P : Pr} (a : Vr κ h env f (.builtin id)) (b : EvL κ n env h (e :: es) Pa) (c : Fun κ n h (.builtin id) Pa P)
    (he : ∀ pos, backTo pos (starEach (e :: es) env) = (false, eval e env) :: backTo pos (starEach es env) := by intro _; rfl)
    (hp : ∀ pos, (backTo pos (starEach (e :: es) env)).any (·.1) = false := by intro _; rfl) (hd : (f == ("__debug__" : Str)) = false := by decide) : Ev κ n env h (.Call (.Name f p) (e :: es) [] pos) P := by
  intro A s V rm y
  refine wpAny_Call_NameR (wpAny_Name (a A _ _ s y.ext ?_) hd)
  refine callWith_builtin (hp pos) ?_
  have z := fun Q k => b.go (A := A) (s := s) (V := V) (Q := Q) (E := fun _ _ => False) pos rm y k
  rw [he] at z ⊢
  exact evalArgs_plain (z _ fun vs s1 pv l y1 => (c A s1 V vs rm y1 pv).after l)
theorem ev_call_t {f : Str} {p pos : Pos} {e : Expr} {es : List Expr} {T : String} {Pa : (Addr → Prop) → List Value → Heap → Prop} {P : Pr} (a : Vr κ h env f (.type T)) (b : EvL κ n env h (e :: es) Pa) (c : Fun κ n h (.type T) Pa P)
    (he : ∀ pos, backTo pos (starEach (e :: es) env) = (false, eval e env) :: backTo pos (starEach es env) := by intro _; rfl)
    (hp : ∀ pos, (backTo pos (starEach (e :: es) env)).any (·.1) = false := by intro _; rfl) (hd : (f == ("__debug__" : Str)) = false := by decide) : Ev κ n env h (.Call (.Name f p) (e :: es) [] pos) P := by
  intro A s V rm y
  refine wpAny_Call_NameR (wpAny_Name (a A _ _ s y.ext ?_) hd)
  refine PySem.callWith_type (hp pos) ?_
  have z := fun Q k => b.go (A := A) (s := s) (V := V) (Q := Q) (E := fun _ _ => False) pos rm y k
  rw [he] at z ⊢
  exact evalArgs_plain (z _ fun vs s1 pv l y1 => (c A s1 V vs rm y1 pv).after l)
theorem ev_call_f {f : Str} {p pos : Pos} {e : Expr} {es : List Expr} {fa : Addr} {o : Obj} {fd : FuncData} {Pa : (Addr → Prop) → List Value → Heap → Prop} {P : Pr} (a : Vr κ h env f (.ref fa)) (ho : h.get? fa = some o) (hd : o.data = .func fd) (b : EvL κ n env h (e :: es) Pa)
    (c : Fun κ n h (.ref fa) Pa P)
    (he : ∀ pos, backTo pos (starEach (e :: es) env) = (false, eval e env) :: backTo pos (starEach es env) := by intro _; rfl) (hb : (f == ("__debug__" : Str)) = false := by decide) : Ev κ n env h (.Call (.Name f p) (e :: es) [] pos) P := by
  intro A s V rm y
  refine wpAny_Call_NameR (wpAny_Name (a A _ _ s y.ext ?_) hb)
  refine callWith_function (o := o) (fd := fd) ?_
  have z := fun Q k => b.go (A := A) (s := s) (V := V) (Q := Q) (E := fun _ _ => False) pos rm y k
  rw [he] at z ⊢
  exact evalArgs_plain (z _ fun vs s1 pv l y1 => ⟨⟨Ext.get_data y1.ext ho fun vs q => (by rw [hd] at q; cases q), hd⟩, (c A s1 V vs rm y1 pv).after l⟩)

/-! ## items -/
theorem ev_item {value slice : Expr} {pos : Pos} {ds : List Da} {k : Int} {d : Da} (a : Ev κ n env h value (Is (.list ds))) (b : Ev κ n env h slice (Is (.int k))) (h0 : 0 ≤ k) (h1 : k < 2 ^ 63) (hd : ds[k.toNat]? = some d)
    (hs : ∀ o i, subscripted slice false o i = operate [o, i] (getItem o i) := by intro _ _; with_unfolding_all rfl) : Ev κ n env h (.Subscript value slice pos) (Is d) := by
  intro A s V rm y
  refine Subscript_ (a.go rm y fun o s1 po l1 y1 => b.go rm y1 fun i s2 pi l2 y2 => ?_)
  have po' := Is.per (κ := κ) _ _ _ _ l2.ext po
  cases pi
  cases po' with
  | list va pl r =>
    obtain ⟨v, hv, dv⟩ := r.get hd
    exact tail_any pl.isList.typeIs slot_list_getitem.lookup (wpAny_getItem_list pl.isList h0 h1 (by simpa using hv) ⟨dv, l1.trans l2⟩) (hs _ _)
theorem ev_item_t {value slice : Expr} {pos : Pos} {ds : List Da} {k : Int} {d : Da} (a : Ev κ n env h value (Is (.tup ds))) (b : Ev κ n env h slice (Is (.int k))) (h0 : 0 ≤ k) (h1 : k < 2 ^ 63) (hd : ds[k.toNat]? = some d)
    (hs : ∀ o i, subscripted slice false o i = operate [o, i] (getItem o i) := by intro _ _; with_unfolding_all rfl) : Ev κ n env h (.Subscript value slice pos) (Is d) := by
  intro A s V rm y
  refine Subscript_ (a.go rm y fun o s1 po l1 y1 => b.go rm y1 fun i s2 pi l2 y2 => ?_)
  have po' := Is.per (κ := κ) _ _ _ _ l2.ext po
  cases pi
  cases po' with
  | tup va pl r =>
    obtain ⟨v, hv, dv⟩ := r.get hd
    have hk : k.toNat < ds.length := (List.getElem?_eq_some_iff.mp hd).1
    refine tail_any (T := "tuple") pl.typeIs slot_tuple_getitem.lookup (getItem_tuple (j := k.toNat) pl (by omega) h1 ?_ (by simpa using hv) ⟨dv, l1.trans l2⟩) (hs _ _)
    have hl := r.length
    rw [Array.length_toList] at hl
    have hn : ¬ k < 0 := Int.not_lt.mpr ‹_›
    simp only [seqIndex?, if_neg hn]
    rw [if_pos]
    simp only [Bool.and_eq_true, decide_eq_true_eq]
    omega
end Mine
end
section
open PySem PySem.W PySem.W.X PyProof.Rows PySem.Calls
set_option Elab.async false
set_option maxRecDepth 100000
namespace Mine
variable {κ : Cx} {n : Nat} {env : Env} {h : Heap} {A : Around} {s : Shared} {V : Addr → Prop}

theorem ExtB.fresh {T : Tb} {X : Addr → Prop} {h h1 h2 : Heap} (a : Ext T h h1) (b : ExtB T X h1 h2) (hx : ∀ b, X b → h.get? b = none) : Ext T h h2 := by
  intro c o _ e
  have nx : ¬ X c := fun x => by rw [hx c x] at e; cases e
  exact (ExtB.trans (T := T) (X := fun b => b ≠ c ∧ X b) (a.mono fun _ f => f.elim) (b.mono fun d x => ⟨fun q => nx (q ▸ x), x⟩)) c o (fun q => q.1 rfl) e

/-! ## a heap without some of its objects -/
open Classical in
noncomputable def cutH (K : Addr → Prop) (h : Heap) : Heap := ⟨h.objs.mapIdx fun i o => if K i then o else { cls := .none, data := .freed }, h.life⟩
theorem cutH_yes {K : Addr → Prop} {h : Heap} {a : Addr} (k : K a) : (cutH K h).get? a = h.get? a := by
  unfold cutH Heap.get?
  simp only [Array.getElem?_mapIdx]
  cases h.objs[a]? with
  | none => rfl
  | some o => simp only [Option.map_some, if_pos k]
theorem cutH_no {K : Addr → Prop} {h : Heap} {a : Addr} (k : ¬ K a) : (cutH K h).get? a = none := by
  unfold cutH Heap.get?
  simp only [Array.getElem?_mapIdx]
  cases h.objs[a]? with
  | none => rfl
  | some o => simp only [Option.map_some, if_neg k]
theorem cutH_ext {T : Tb} {K : Addr → Prop} {h : Heap} : Ext T (cutH K h) h := fun b o _ e => .inl (by
  by_cases k : K b
  · rw [cutH_yes k] at e; exact e
  · rw [cutH_no k] at e; cases e)
theorem cutH_of {T : Tb} {K : Addr → Prop} {h h' : Heap} (e : Ext T h h') (k : ∀ a, h.get? a ≠ none → K a) : Ext T h (cutH K h') := fun b o x eb => by
  have kb := k b (by rw [eb]; exact fun z => by cases z)
  rw [cutH_yes kb]
  exact e b o x eb
theorem cutH_at {K : Addr → Prop} (t : 0 < s.toks) (ok : κ.T.ok s.heap) (k : ∀ a, s.heap.get? a = none → K a) : At κ (cutH K s.heap) K s :=
  ⟨cutH_ext, t, ok, fun a x => x.elim (fun e => Classical.byContradiction fun z => e (cutH_no z)) (k a)⟩

theorem calm_ns {h h' : Heap} {C : Addr} {m : Str → Option Value} (hn : h.Ns C m) (hs : Heap.SameBut C h h') : Calm h h' := Calm.but (fun b => b = C) (fun b o hb e => hs.extBut b o hb e) fun b o vs hb e hd => by
  obtain ⟨o', es, ep, e', hd', _⟩ := hn
  rw [hb, e'] at e; cases e; rw [hd'] at hd; cases hd
theorem calm_cell {h h' : Heap} {C : Addr} {u : Option Value} (hn : h.IsCell C u) (hs : Heap.SameBut C h h') : Calm h h' := Calm.but (fun b => b = C) (fun b o hb e => hs.extBut b o hb e) fun b o vs hb e hd => by
  obtain ⟨o', e', hd'⟩ := hn
  rw [hb, e'] at e; cases e; rw [hd'] at hd; cases hd
/-! ## what a comprehension takes -/
structure Wk (κ : Cx) (A : Around) (V : Addr → Prop) (s₀ s : Shared) (I : Addr) (ds : List Da) (fp wr : List Addr) (P : Nat → Value → Prop) (St : Nat → Heap → Prop) : Prop where
  hd : A.handled = none
  ww : ∀ A' : Around, A'.handled = none → Walks κ.prog κ.w A' I fp wr ds.length P St
  solid : ∀ i h', St i h' → ∀ b ∈ fp, ∀ o, h'.get? b = some o → o.cls ≠ .none ∧ o.cls ≠ .type "code"
  shape : ∀ i h', St i h' → ∀ b ∈ fp, ∀ o, h'.get? b = some o → (∃ vs, o.data = .fields vs) ∨ ∃ vs q, o.data = .seq vs q
  st : St 0 s.heap
  below : ∀ b ∈ fp, b < s.heap.objs.size
  new : ∀ b ∈ wr, s₀.heap.get? b = none
  noq : ∀ i h', St i h' → ∀ b ∈ wr, ∀ o, h'.get? b = some o → Held o → False
  item : ∀ (i : Nat) v, i < ds.length → P i v → ∃ d, ds[i]? = some d ∧ Dn V s.heap v d
theorem Wk.w {s₀ : Shared} {I : Addr} {ds : List Da} {fp wr : List Addr} {P : Nat → Value → Prop} {St : Nat → Heap → Prop} (W : Wk κ A V s₀ s I ds fp wr P St) : Walks κ.prog κ.w A I fp wr ds.length P St := W.ww A W.hd
noncomputable def Src (κ : Cx) (n : Nat) (env : Env) (h : Heap) (iter : Expr) (ds : List Da) : Prop :=
  ∀ A s V, Rm n A → At κ h V s → wpAny κ.M A (eval iter env) (fun xv s₁ => wpAny κ.M A (pyIter xv) (fun it s₂ => Lt κ.T NoX s s₂ ∧ ∃ I fp wr P St, it = .ref I ∧ Wk κ A V s s₂ I ds fp wr P St) (fun _ _ => False) s₁) (fun _ _ => False) s

theorem src_list {iter : Expr} {ds : List Da} (a : Ev κ n env h iter (Is (.list ds))) : Src κ n env h iter ds := by
  intro A s V rm y
  refine a.go rm y fun v s1 pv l1 y1 => ?_
  cases pv with
  | @list ax items _ va pl r =>
    have hax : ax < s1.heap.objs.size := by obtain ⟨_, e⟩ := pl; exact Heap.lt_size e
    have hlen : ds.length = items.size := by rw [← r.length, Array.length_toList]
    have W := fun (A' : Around) (hd : A'.handled = none) => Walks.list (prog := κ.prog) (w := κ.w) (A := A') hd s1.heap.objs.size ax (Nat.ne_of_lt hax) items
    rw [← hlen] at W
    refine wpAny_pyIter_list pl.isList ⟨l1.trans .newObj, s1.heap.objs.size, _, _, _, _, rfl, rm.hd, W, ?_, ?_, ⟨⟨_, Heap.get?_push_size _ rfl, rfl, rfl⟩, pl.isList.push _⟩, ?_, ?_, ?_, ?_⟩
    · rintro i h' ⟨⟨o, ho, hc, _⟩, ⟨o', ho', hc', _⟩⟩ b hb ob e
      simp only [List.mem_cons, List.not_mem_nil, or_false] at hb
      rcases hb with rfl | rfl
      · rw [ho] at e; cases e; rw [hc]; exact ⟨fun q => (by cases q), by decide⟩
      · rw [ho'] at e; cases e; rw [hc']; exact ⟨fun q => (by cases q), by decide⟩
    · rintro i h' ⟨⟨o, ho, _, hd⟩, ⟨o', ho', _, q, hd'⟩⟩ b hb ob e
      simp only [List.mem_cons, List.not_mem_nil, or_false] at hb
      rcases hb with rfl | rfl
      · rw [ho] at e; cases e; exact .inl ⟨_, hd⟩
      · rw [ho'] at e; cases e; exact .inr ⟨_, _, hd'⟩
    · intro b hb
      simp only [List.mem_cons, List.not_mem_nil, or_false] at hb
      show b < (s1.heap.push _).objs.size
      rw [Heap.size_push]
      rcases hb with e | e
      · rw [e]; exact Nat.lt_succ_self _
      · rw [e]; exact Nat.lt_succ_of_lt hax
    · intro b hb
      simp only [List.mem_cons, List.not_mem_nil, or_false] at hb
      subst hb
      exact Ext.back l1.ext (get_none_of_size (Nat.le_refl _))
    · rintro i h' ⟨⟨o, ho, hc, hd⟩, _⟩ b hb ob e q
      simp only [List.mem_cons, List.not_mem_nil, or_false] at hb
      subst hb
      rw [ho] at e; cases e
      exact q.ne hd rfl
    · intro i v _ hv
      obtain ⟨d, hd, dv⟩ := r.get' (i := i) (v := v) (by simpa using hv)
      exact ⟨d, hd, dv.kv (Ext.kv (T := κ.T) (ExtB.push _))⟩

/-! ## tests -/
noncomputable def EvB (κ : Cx) (n : Nat) (env : Env) (h : Heap) (c : Expr) (b : Bool) : Prop :=
  ∀ A s V, Rm n A → At κ h V s → wpAny κ.M A (isTrue c env (eval c env)) (fun r s' => r = b ∧ Lt κ.T NoX s s') (fun _ _ => False) s
theorem EvB.go {c : Expr} {b : Bool} (x : EvB κ n env h c b) (rm : Rm n A) (y : At κ h V s) {Q : Bool → Shared → Prop} {E : Value → Shared → Prop} (k : ∀ s', Lt κ.T NoX s s' → At κ h V s' → Q b s') : wpAny κ.M A (isTrue c env (eval c env)) Q E s :=
  wpAny_mono (wpAny_toks_of y.tk (x A s V rm y)) (fun v s' q => by obtain ⟨t, rfl, l⟩ := q; exact k s' l (y.on l t)) fun _ _ f => f.2.elim
noncomputable def EvT (κ : Cx) (n : Nat) (env : Env) (h : Heap) (ifs : List Expr) (b : Bool) : Prop :=
  ∀ A s V, Rm n A → At κ h V s → wpAny κ.M A (forIn ifs true fun c r => if r = true then do let ok ← isTrue c env (eval c env); pure (ForInStep.yield ok) else pure (ForInStep.yield r))
    (fun r s' => r = b ∧ Lt κ.T NoX s s') (fun _ _ => False) s
theorem evt_nil : EvT κ n env h [] true := fun _ s _ _ _ => wpAny_pure ⟨rfl, .refl s⟩
theorem evt_one {c : Expr} {b : Bool} (x : EvB κ n env h c b) : EvT κ n env h [c] b := fun A s V rm y => by
  rw [List.forIn_cons, if_pos rfl]
  refine wpAny_bind (wpAny_bind (x.go rm y fun s' l _ => wpAny_pure (wpAny_pure ⟨rfl, l⟩)))
theorem EvT.go {ifs : List Expr} {b : Bool} (x : EvT κ n env h ifs b) (rm : Rm n A) (y : At κ h V s) {Q : Bool → Shared → Prop} {E : Value → Shared → Prop} (k : ∀ s', Lt κ.T NoX s s' → At κ h V s' → Q b s') :
    wpAny κ.M A (forIn ifs true fun c r => if r = true then do let ok ← isTrue c env (eval c env); pure (ForInStep.yield ok) else pure (ForInStep.yield r)) Q E s :=
  wpAny_mono (wpAny_toks_of y.tk (x A s V rm y)) (fun v s' q => by obtain ⟨t, rfl, l⟩ := q; exact k s' l (y.on l t)) fun _ _ f => f.2.elim

/-! ## the loop of a comprehension: how the target takes its item is left open (set) -/
/-- what a loop of a comprehension does: BODY is the rest of a turn -/
noncomputable def Turns (κ : Cx) (A : Around) (code : Code) (tgt : Expr) (cenv : Env) (I : Addr) (BODY : Value → (Shared → Prop) → Shared → Prop) : Prop :=
  ∀ (J : Nat → Shared → Prop) (R : Result → Shared → Prop), (∀ n s, J n s → ∀ E : Value → Shared → Prop, wpAny κ.M A (pyNext (.ref I)) (fun r s₁ => match r with
    | none => R (.ok .next) s₁
    | some v => wpAny κ.M A (assign tgt cenv v) (fun _ s₂ => BODY v (fun s₅ => ∃ m, m < n ∧ J m s₅) s₂) E s₁) E s) → ∀ n s, J n s → codeAny κ.M A code R s
theorem comp_loopG {code : Code} {tgt : Expr} {cenv : Env} {BODY : Value → (Shared → Prop) → Shared → Prop} {ds : List Da} {g : Da → List Da} {I D : Addr} {fp wr : List Addr} {P : Nat → Value → Prop} {St : Nat → Heap → Prop} {R : Result → Shared → Prop} {X : Addr → Prop} {J : Heap → Prop} {K : Value → Heap → Prop} {ys0 : Array Value} {s : Shared}
    (hloop : Turns κ A code tgt cenv I BODY) (w : Walks κ.prog κ.w A I fp wr ds.length P St) (solid : ∀ i h', St i h' → ∀ b ∈ fp, ∀ o, h'.get? b = some o → o.cls ≠ .none ∧ o.cls ≠ .type "code") (noq : ∀ i h', St i h' → ∀ b ∈ wr, ∀ o, h'.get? b = some o → Held o → False)
    (item : ∀ (i : Nat) v, i < ds.length → P i v → ∃ d, ds[i]? = some d ∧ Dn (fun a => V a ∧ a ≠ D) s.heap v d) (tk : 0 < s.toks)
    (hXD : ∀ b, X b → b ≠ D) (hDf : D ∉ fp) (hst : St 0 s.heap) (hacc : s.heap.PlainList D ys0) (hJ : J s.heap) (hXf : ∀ b, X b → b ∉ fp) (hXq : ∀ b h' o, X b → J h' → h'.get? b = some o → Held o → False)
    (kJ : ∀ h' h'', J h' → ExtB κ.T (fun b => b = D ∨ b ∈ wr) h' h'' → J h'') (kJ' : ∀ v h', K v h' → J h')
    (set : ∀ v s' (Q : Unit → Shared → Prop) (E : Value → Shared → Prop), J s'.heap → (∀ h' tk', s'.toks ≤ tk' → K v h' → ExtB κ.T X s'.heap h' → Calm s'.heap h' → Q () { s' with heap := h', toks := tk' }) → wpAny κ.M A (assign tgt cenv v) Q E s')
    (hbody : ∀ (i : Nat) v d s' ys (Z : Shared → Prop), ds[i]? = some d → Lt κ.T (fun b => X b ∨ b = D ∨ b ∈ wr) s s' → 0 < s'.toks → K v s'.heap → s'.heap.PlainList D ys → ys.size = ys0.size + ((ds.take i).flatMap g).length → Dn (fun a => V a ∧ a ≠ D) s'.heap v d →
      (∀ s'' us, Lt κ.T (fun b => X b ∨ b = D) s' s'' → 0 < s''.toks → J s''.heap → s''.heap.PlainList D (ys ++ us) → Dns (fun a => V a ∧ a ≠ D) s''.heap us.toList (g d) → Z s'') → BODY v Z s')
    (hR : ∀ s' us, Lt κ.T (fun b => X b ∨ b = D ∨ b ∈ wr) s s' → J s'.heap → s'.heap.PlainList D (ys0 ++ us) → Dns (fun a => V a ∧ a ≠ D) s'.heap us.toList (ds.flatMap g) → 0 < s'.toks → R (.ok .next) s') :
    codeAny κ.M A code R s := by
  have hDw : D ∉ wr := fun q => hDf (w.sub _ q)
  have hXw : ∀ b, X b → b ∉ wr := fun b x q => hXf b x (w.sub _ q)
  refine hloop (fun k s' => ∃ j us, j ≤ ds.length ∧ k = ds.length + 1 - j ∧ St j s'.heap ∧ s'.heap.PlainList D (ys0 ++ us) ∧ J s'.heap ∧
    Dns (fun a => V a ∧ a ≠ D) s'.heap us.toList ((ds.take j).flatMap g) ∧ Lt κ.T (fun b => X b ∨ b = D ∨ b ∈ wr) s s' ∧ 0 < s'.toks) R ?_ (ds.length + 1) s
    ⟨0, #[], Nat.zero_le _, rfl, hst, by simpa using hacc, hJ, by simpa using Dns.nil, .refl _, tk⟩
  rintro k s' ⟨j, ys, hj, rfl, hst', hacc', hJ', hds, l, tk'⟩ E
  by_cases hlt : j < ds.length
  · refine wpAny_with_toks (n := 1) tk' (w.item j _ _ _ hlt hst' fun v h₁ tk₁ hPv hst₁ hk₁ htk₁ => ?_)
    obtain ⟨d, hd, dv⟩ := item j v hlt hPv
    have e1 : ExtB κ.T (fun b => b = D ∨ b ∈ wr) s'.heap h₁ := fun b o hb e => .inl (hk₁ b o (fun q => hb (.inr q)) e)
    have cm₁ : Calm s'.heap h₁ := Calm.but (fun b => b ∈ wr) (fun b o hb e => hk₁ b o hb e) fun b o vs hb e _ => solid _ _ hst' b (w.sub _ hb) o e
    have hJ₁ := kJ _ _ hJ' e1
    refine set v _ _ _ hJ₁ fun h₂ tk₂ htk₂ hK₂ e2 cm₂ => ?_
    have htk₂' : 0 < tk₂ := Nat.lt_of_lt_of_le htk₁ htk₂
    have l2' : Lt κ.T (fun b => X b ∨ b = D ∨ b ∈ wr) s ⟨h₂, s'.gens, s'.drawn, tk₂, s'.os⟩ :=
      l.trans (.of_ext ((e1.mono fun b x => .inr x).trans (e2.mono fun b x => .inl x)) (cm₁.trans cm₂))
    have hst₂ : St (j + 1) h₂ := w.frame _ _ _ hst₁ fun b hb o e => ExtB.get e2 (fun x => hXf b x hb) e (solid _ _ hst₁ b hb o e).1
    have hacc₂ : h₂.PlainList D (ys0 ++ ys) := by
      obtain ⟨q, e⟩ := hacc'
      exact ⟨q, ExtB.get_data e2 (fun x => hXD D x rfl) (hk₁ D _ hDw e) fun vs z => by cases z⟩
    -- what holds items stays
    have kv2 : Kv (fun a => V a ∧ a ≠ D) s'.heap h₂ := fun b o vb eb hd' => by
      have e1' : h₁.get? b = some o := hk₁ b o (fun hb => noq j _ hst' b hb o eb hd') eb
      exact ExtB.get_data e2 (fun x => hXq b h₁ o x hJ₁ e1' hd') e1' fun vs' q' => hd'.ne q' rfl
    have dv₂ : Dn (fun a => V a ∧ a ≠ D) h₂ v d := dv.kv fun b o vb eb hd' => by
      have nX : ¬ X b := fun z => hXq b s.heap o z hJ eb hd'
      have nw : b ∉ wr := fun hb => noq 0 _ hst b hb o eb hd'
      exact ExtB.get_data l2'.ext (by rintro (z | z | z); exact nX z; exact vb.2 z; exact nw z) eb fun vs' q' => hd'.ne q' rfl
    have hsz : (ys0 ++ ys).size = ys0.size + ((ds.take j).flatMap g).length := by
      have := hds.length
      rw [Array.length_toList] at this
      rw [Array.size_append, this]
    refine hbody j v d ⟨h₂, s'.gens, s'.drawn, tk₂, s'.os⟩ (ys0 ++ ys) _ hd l2' htk₂' hK₂ hacc₂ hsz dv₂ fun s'' us l₃ tk₃ hJ₃ hacc₃ hus => ?_
    have kv3 : Kv (fun a => V a ∧ a ≠ D) h₂ s''.heap := fun b o vb eb hd' => ExtB.get_data l₃.ext (by rintro (z | z); exact hXq b h₂ o z (kJ' _ _ hK₂) eb hd'; exact vb.2 z) eb fun vs' q' => hd'.ne q' rfl
    have hst₃ : St (j + 1) s''.heap := w.frame _ _ _ hst₂ fun b hb o e => ExtB.get l₃.ext (by rintro (z | z); exact hXf b z hb; exact hDf (z ▸ hb)) e (solid _ _ hst₂ b hb o e).1
    refine ⟨ds.length + 1 - (j + 1), turn_lt hlt, j + 1, ys ++ us, hlt, rfl, hst₃, Array.append_assoc ▸ hacc₃, hJ₃, ?_, l2'.trans (l₃.mono fun b x => x.elim .inl fun z => .inr (.inl z)), tk₃⟩
    rw [List.take_add_one, hd, Option.toList_some, List.flatMap_append, Array.toList_append]
    simpa using ((hds.kv kv2).kv kv3).append hus
  · have hjn : j = ds.length := by omega
    subst hjn
    refine wpAny_with_toks (n := 1) tk' (w.done _ _ _ hst' fun h₁ tk₁ hk₁ htk₁ => ?_)
    have e1 : ExtB κ.T (fun b => b = D ∨ b ∈ wr) s'.heap h₁ := fun b o hb e => .inl (hk₁ b o (fun q => hb (.inr q)) e)
    have cm₁ : Calm s'.heap h₁ := Calm.but (fun b => b ∈ wr) (fun b o hb e => hk₁ b o hb e) fun b o vs hb e _ => solid _ _ hst' b (w.sub _ hb) o e
    refine hR _ ys (l.trans (.of_ext (e1.mono fun b x => .inr x) cm₁)) (kJ _ _ hJ' e1) (hacc'.at fun o e => hk₁ _ o hDw e) ?_ htk₁
    rw [List.take_length] at hds
    exact hds.kv fun b o vb eb hd' => hk₁ b o (fun hb => noq _ _ hst' b hb o eb hd') eb
/-- seen by an element: all but the list that is filled -/
theorem cut_at {D : Addr} {X : Addr → Prop} {wr : List Addr} {s s' : Shared} (hb : Ext κ.T h s.heap) (inh : ∀ b, h.get? b ≠ none → V b ∧ ¬ (X b ∨ b = D ∨ b ∈ wr)) (vis : ∀ b, s.heap.get? b = none → V b) (fresh : ∀ b, X b ∨ b = D ∨ b ∈ wr → V b)
    (l : Lt κ.T (fun b => X b ∨ b = D ∨ b ∈ wr) s s') (hD : ∃ ys, s'.heap.PlainList D ys) (tk : 0 < s'.toks) (ok : κ.T.ok s.heap) : At κ (cutH (fun a => V a ∧ a ≠ D) s'.heap) (fun a => V a ∧ a ≠ D) s' ∧ Ext κ.T h (cutH (fun a => V a ∧ a ≠ D) s'.heap) := by
  refine ⟨cutH_at tk (l.ok ok) fun b eb => ⟨?_, fun q => ?_⟩, fun b o _ e => ?_⟩
  · by_cases hx : X b ∨ b = D ∨ b ∈ wr
    · exact fresh b hx
    · refine vis b ?_
      cases q : s.heap.get? b with
      | none => rfl
      | some o => rcases l.ext b o hx q with z | ⟨_, _, _, _, z⟩ <;> rw [eb] at z <;> cases z
  · obtain ⟨ys, _, e⟩ := hD
    rw [q, e] at eb; cases eb
  · obtain ⟨vb, nx⟩ := inh b (by rw [e]; exact fun z => by cases z)
    rw [cutH_yes ⟨vb, fun q => nx (.inr (.inl q))⟩]
    exact (((ExtB.mono (Y := fun c => c ≠ b) hb fun _ f => f.elim)).trans (l.ext.mono (Y := fun c => c ≠ b) fun c q hc => nx (hc ▸ q))) b o (fun q => q rfl) e
theorem comp_loop {elt iter tgt : Expr} {ifs : List Expr} {scope : Scope} {pos : Pos} {cenv : Env} {ds : List Da} {keep : Da → Bool} {f : Da → Da} {s₀ s₂ s : Shared} {I D : Addr} {fp wr : List Addr} {P : Nat → Value → Prop} {St : Nat → Heap → Prop} {R : Result → Shared → Prop} {X : Addr → Prop} {J : Heap → Prop} {K : Value → Heap → Prop}
    (rm : Rm n A) (W : Wk κ A V s₀ s₂ I ds fp wr P St) (hz : ds.length ≤ sizeLine) (y₀ : At κ h V s₀) (l02 : Lt κ.T NoX s₀ s₂) (l2 : Lt κ.T NoX s₂ s) (tk : 0 < s.toks)
    (hX : ∀ b, X b → s₂.heap.get? b = none) (hD : s₂.heap.get? D = none) (hDX : ¬ X D) (hDf : D ∉ fp)
    (hst : St 0 s.heap) (hacc : s.heap.PlainList D #[]) (hJ : J s.heap) (hXf : ∀ b, X b → b ∉ fp) (hXq : ∀ b h' o, X b → J h' → h'.get? b = some o → Held o → False)
    (kJ : ∀ h' h'', J h' → ExtB κ.T (fun b => b = D ∨ b ∈ wr) h' h'' → J h'') (kJ' : ∀ v h', K v h' → J h')
    (kK : ∀ v h' h'', K v h' → ExtB κ.T (fun b => b = D ∨ b ∈ wr) h' h'' → K v h'')
    (kC : ∀ v h' Y, K v h' → (∀ b, X b → Y b) → (∀ a, h.get? a ≠ none → Y a) → K v (cutH Y h'))
    (set : ∀ v s' (Q : Unit → Shared → Prop) (E : Value → Shared → Prop), J s'.heap → (∀ h' tk', s'.toks ≤ tk' → K v h' → ExtB κ.T X s'.heap h' → Calm s'.heap h' → Q () { s' with heap := h', toks := tk' }) → wpAny κ.M A (assign tgt cenv v) Q E s')
    (test : ∀ (i : Nat) v d h', Ext κ.T h h' → ds[i]? = some d → Dn Tr h' v d → K v h' → EvT κ n cenv h' ifs (keep d))
    (helt : ∀ (i : Nat) v d h', Ext κ.T h h' → ds[i]? = some d → Dn Tr h' v d → K v h' → keep d = true → Ev κ n cenv h' elt (Is (f d)))
    (hR : ∀ s' ys, Lt κ.T (fun b => X b ∨ b = D ∨ b ∈ wr) s s' → J s'.heap → s'.heap.PlainList D ys → Dns V s'.heap ys.toList ((ds.filter keep).map f) → 0 < s'.toks → R (.ok .next) s')
    (ht : ∀ v, letOwnedTupleGo tgt (.ref I) v = pure () := by intro _; rfl) :
    codeAny κ.M A (.compLoop (.ListComp elt [⟨tgt, iter, ifs, 0⟩] scope pos) 0 (.ref I) (.ref D) cenv) R s := by
  have vD : V D := y₀.vis D (.inr (Ext.back l02.ext hD))
  have ok₀ : κ.T.ok s.heap := (l02.trans l2).ok y₀.ok
  have hDw : D ∉ wr := fun q => hDf (W.w.sub _ q)
  have xfresh : ∀ b, (X b ∨ b = D ∨ b ∈ wr) → s₀.heap.get? b = none := by
    rintro b (x | rfl | hb)
    · exact Ext.back l02.ext (hX b x)
    · exact Ext.back l02.ext hD
    · exact W.new b hb
  have inh : ∀ b, h.get? b ≠ none → V b ∧ ¬ (X b ∨ b = D ∨ b ∈ wr) := fun b e => ⟨y₀.vis b (.inl e), fun x => e (Ext.back y₀.ext (xfresh b x))⟩
  have hXD : ∀ b, X b → b ≠ D := fun b x q => hDX (q ▸ x)
  have xY : ∀ b, X b → (V b ∧ b ≠ D) := fun b x => ⟨y₀.vis b (.inr (Ext.back l02.ext (hX b x))), hXD b x⟩
  have hY : ∀ b, h.get? b ≠ none → (V b ∧ b ≠ D) := fun b e => ⟨(inh b e).1, fun q => (inh b e).2 (.inr (.inl q))⟩
  have cut := fun (s' : Shared) (l : Lt κ.T (fun b => X b ∨ b = D ∨ b ∈ wr) s s') hp tk => cut_at (y₀.ext.trans (l02.trans l2).ext) inh (fun b e => y₀.vis b (.inr (Ext.back (l02.trans l2).ext e))) (fun b x => y₀.vis b (.inr (xfresh b x))) l hp tk ok₀
  have kcut : ∀ h', Kv (fun a => V a ∧ a ≠ D) h' (cutH (fun a => V a ∧ a ≠ D) h') := fun h' b o vb eb _ => by rw [cutH_yes vb]; exact eb
  have hloop : Turns κ A (.compLoop (.ListComp elt [⟨tgt, iter, ifs, 0⟩] scope pos) 0 (.ref I) (.ref D) cenv) tgt cenv I fun _ Z s₂ => ∀ E : Value → Shared → Prop,
      wpAny κ.M A (forIn ifs true fun c r => if r = true then do let ok ← isTrue c cenv (eval c cenv); pure (ForInStep.yield ok) else pure (ForInStep.yield r)) (fun ok s₃ => if ok = true then wpAny κ.M A (eval elt cenv) (fun x s₄ => wpAny κ.M A (call (.builtin "list.append") [.ref D, x]) (fun _ s₅ => Z s₅) E s₄) E s₃ else Z s₃) E s₂ :=
    fun J R turn n s hs => codeAny_compLoop_tests J (fun n s hI => wpAny_mono (turn n s hI _) (fun r s₁ q => by
      cases r with
      | none => exact q
      | some v => exact wpAny_mono q (fun _ s₂ q2 => q2 _) fun _ _ z => z) fun _ _ z => z) n hs ht
  have e0 : ∀ l : List Da, l.flatMap (fun d => if keep d = true then [f d] else []) = (l.filter keep).map f := fun l => by
    induction l with
    | nil => rfl
    | cons a r ih => rw [List.flatMap_cons, ih, List.filter_cons]; split <;> rfl
  refine comp_loopG (V := V) (ds := ds) (g := fun d => if keep d = true then [f d] else []) (ys0 := #[]) hloop W.w W.solid W.noq (fun i v hi p => ?_) tk hXD hDf hst hacc hJ hXf hXq kJ kJ' set ?_ fun s' ys l hJ' hl hd tk' => hR s' ys l hJ' (by simpa using hl) (by rw [e0] at hd; exact hd.at fun a va _ => va.1) tk'
  · obtain ⟨d, hd, dv⟩ := W.item i v hi p
    have z : Dn (fun a => V a ∧ a ≠ D) s₂.heap v d := dv.at fun a va e' => ⟨va, fun x => e' (x ▸ hD)⟩
    exact ⟨d, hd, z.kv (Ext.kv l2.ext)⟩
  · intro i v d s' ys Z hd l tk' hK hacc' hsz dv hZ E
    obtain ⟨y', x'⟩ := cut s' l ⟨_, hacc'⟩ tk'
    refine (test i v d _ x' hd ((dv.kv (kcut _)).at fun _ _ _ => trivial) (kC v _ _ hK xY hY)).go rm y' fun s₃ l₃ y₃ => ?_
    have hK₃ := kK _ _ _ hK (l₃.toB (X := fun b => b = D ∨ b ∈ wr)).ext
    have hacc₃ := (Ext.kv (V := Tr) l₃.ext).plain trivial hacc'
    cases hkd : keep d with
    | false =>
      rw [if_neg (by simp)]
      exact hZ s₃ #[] l₃.toB y₃.tk (kJ' _ _ hK₃) (by simpa using hacc₃) (by simpa [hkd] using Dns.nil)
    | true =>
      rw [if_pos rfl]
      obtain ⟨y₃', x₃⟩ := cut s₃ (l.trans l₃.toB) ⟨_, hacc₃⟩ y₃.tk
      refine (helt i v d _ x₃ hd (((dv.kv (Ext.kv l₃.ext)).kv (kcut _)).at fun _ _ _ => trivial) (kC v s₃.heap _ hK₃ xY hY) hkd).go rm y₃' fun u s₄ pu l₄ y₄ => ?_
      have hys : ys.size ≤ sizeLine := by
        rw [e0] at hsz
        have e2 : ((ds.take i).filter keep).length ≤ (ds.take i).length := List.length_filter_le _ _
        have e3 : (ds.take i).length ≤ ds.length := by rw [List.length_take]; omega
        simp only [List.size_toArray, List.length_nil, List.length_map] at hsz
        omega
      have hacc₄ := (Ext.kv (V := Tr) l₄.ext).plain trivial hacc₃
      refine wpAny_list_append_plain (hsz := hys) hacc₄ fun h₅ hl₅ hs₅ => ?_
      have e5 : ExtB κ.T (fun b => b = D ∨ b ∈ wr) s₄.heap h₅ := ExtB.sameBut hs₅ (.inl rfl)
      refine hZ ⟨h₅, _, _, _, _⟩ #[u] ((l₃.trans l₄).toB.trans (.of_ext (ExtB.sameBut hs₅ (.inr rfl)) (Calm.but (fun b => b = D) (fun b o hb e => hs₅.extBut b o hb e) fun b o vs hb e hd => by
          obtain ⟨q, eD⟩ := hacc₄
          rw [hb, eD] at e; cases e; cases hd))) y₄.tk (kJ' _ _ (kK _ _ _ (kK _ _ _ hK₃ (l₄.toB (X := fun b => b = D ∨ b ∈ wr)).ext) e5)) (by simpa using hl₅) ?_
      simp only [hkd, if_true]
      exact .cons (pu.kv fun b o vb eb _ => hs₅.extBut b o vb.2 eb) .nil
end Mine
end
section
open PySem PySem.W PySem.W.X PyProof.Rows PySem.Calls
set_option Elab.async false
set_option maxRecDepth 100000
namespace Mine
variable {κ : Cx} {n : Nat} {env : Env} {h : Heap} {A : Around} {s : Shared} {V : Addr → Prop}

theorem Src.go {iter : Expr} {ds : List Da} (x : Src κ n env h iter ds) (rm : Rm n A) (y : At κ h V s) {Q : Value → Shared → Prop} {E : Value → Shared → Prop}
    (k : ∀ I fp wr P St s₂, Lt κ.T NoX s s₂ → At κ h V s₂ → Wk κ A V s s₂ I ds fp wr P St → Q (.ref I) s₂) : wpAny κ.M A (eval iter env) (fun xv s₁ => wpAny κ.M A (pyIter xv) Q E s₁) E s :=
  wpAny_mono (wpAny_toks_of y.tk (x A s V rm y)) (fun xv s₁ q => wpAny_mono (wpAny_toks_of q.1 q.2) (fun it s₂ z => by
    obtain ⟨t, l, I, fp, wr, P, St, rfl, W⟩ := z
    exact k I fp wr P St s₂ l (y.on l t) W) fun _ _ f => f.2.elim) fun _ _ f => f.2.elim

/-- the names within a comprehension -/
noncomputable def compRho (scope : Scope) (x : Str) (v : Value) (ρ : Str → Option Value) : Str → Option Value := fun y => if y = x then some v else if scope.names.lookup y = some .local then none else ρ y
theorem lookup_relabel {env : Env} : ∀ {names : List (Str × NameKind)} {x : Str}, (names.map fun (n, k) => if (k == NameKind.free && env.scope.kind == .function && env.kindOf n == some .cell) then (n, NameKind.cell) else (n, k)).lookup x = some .local → names.lookup x = some .local := by
  intro names x
  induction names with
  | nil => intro h; cases h
  | cons p r ih =>
    obtain ⟨n, k⟩ := p
    intro h
    rw [List.map_cons] at h
    dsimp only at h
    by_cases hc : (k == NameKind.free && env.scope.kind == .function && env.kindOf n == some .cell) = true
    · rw [if_pos hc, List.lookup_cons] at h
      rw [List.lookup_cons]
      by_cases hx : (x == n) = true
      · rw [hx] at h; cases h
      · simp only [hx] at h ⊢; exact ih h
    · rw [if_neg hc, List.lookup_cons] at h
      rw [List.lookup_cons]
      by_cases hx : (x == n) = true
      · rw [hx] at h ⊢; exact h
      · simp only [hx] at h ⊢; exact ih h
theorem Fm.comp {ρ m' : Str → Option Value} {h' : Heap} {scope : Scope} {cl : List (Str × Addr)} {C : Addr} {x : Str} {v : Value} (F : Fm κ h env ρ) (k : Ext κ.T h h') (hkind : scope.kind = .function) (hcl : ∀ y a, cl.lookup y = some a → env.cells.lookup y = some a ∧ env.kindOf y ≠ some .local)
    (hx : scope.names.lookup x = some .local) (hn : h'.Ns C m') (hv : m' x = some v) : Fm κ h' (compEnvC scope cl C env) (compRho scope x v ρ) := by
  refine ⟨F.base.ext k, hkind, F.glob, F.blt, ⟨m', hn, fun y u hk hu => ?_⟩, fun y a e => ?_⟩
  · unfold compRho at hu
    by_cases hy : y = x
    · rw [if_pos hy] at hu; cases hu; rw [hy]; exact hv
    · rw [if_neg hy, if_pos (lookup_relabel hk)] at hu; cases hu
  · obtain ⟨e', hk⟩ := hcl y a e
    obtain ⟨u, p, q⟩ := F.cl y a e'
    refine ⟨u, cell_ext k p, fun u' hk' hu => q u' hk ?_⟩
    unfold compRho at hu
    by_cases hy : y = x
    · exact absurd (lookup_relabel_local (hy ▸ hx)) hk'
    · rw [if_neg hy] at hu
      by_cases hl : scope.names.lookup y = some .local
      · rw [if_pos hl] at hu; cases hu
      · rw [if_neg hl] at hu; exact hu

/-- a comprehension of one clause, its target a local -/
theorem comp_core {elt iter : Expr} {x : Str} {px : Pos} {ifs : List Expr} {scope : Scope} {pos pos' : Pos} {cl : List (Str × Addr)} {ds : List Da} {keep : Da → Bool} {f : Da → Da} {ρ : Str → Option Value}
    {use : Option (Value → Sem Unit)} {Q : Value → Shared → Prop} {E : Value → Shared → Prop}
    (F : Fm κ h env ρ) (hsrc : Src κ n env h iter ds) (hz : ds.length ≤ sizeLine) (hclos : closureFor scope env = pure cl) (hcl : ∀ y a, cl.lookup y = some a → env.cells.lookup y = some a ∧ env.kindOf y ≠ some .local)
    (hcell : ∀ z ∈ scope.names, z.2 ≠ .cell) (hkind : scope.kind = .function) (hnames : ∀ z ∈ scope.names, z.2 = .local → scope.names.lookup z.1 = some .local) (hx : scope.names.lookup x = some .local)
    (test : ∀ C (i : Nat) v d h', Ext κ.T h h' → ds[i]? = some d → Dn Tr h' v d → Fm κ h' (compEnvC scope cl C env) (compRho scope x v ρ) → EvT κ n (compEnvC scope cl C env) h' ifs (keep d))
    (helt : ∀ C (i : Nat) v d h', Ext κ.T h h' → ds[i]? = some d → Dn Tr h' v d → Fm κ h' (compEnvC scope cl C env) (compRho scope x v ρ) → keep d = true → Ev κ n (compEnvC scope cl C env) h' elt (Is (f d)))
    (hs : ∀ x, foldedSetIterable iter env x = pure x) (rm : Rm n A) (y : At κ h V s)
    (hend : ∀ D C s', Dn V s'.heap (.ref D) (.list ((ds.filter keep).map f)) → Lt κ.T NoX s s' → s.heap.get? C = none → (∃ m, s'.heap.Ns C m) → C ≠ D → At κ h V s' → compPost κ.M A E use Q (.ref D) C (.ok .next) s') :
    wpAny κ.M A (comprehension (.ListComp elt [⟨.Name x px, iter, ifs, 0⟩] scope pos) scope env pos' (newList []) false (eval iter env) use) Q E s := by
  refine wpAny_comprehension_free (g := ⟨.Name x px, iter, ifs, 0⟩) (gs := []) rfl hs hclos hkind hnames ?_
  refine hsrc.go rm y fun I fp wr P St s₂ l02 y₂ W => ?_
  refine wpAny_newObj_type (wpAny_newFunctionEnv hcell (by intro z hz; simp at hz) (fun h₁ hns₁ hsb₁ => ?_) hkind)
  dsimp only at hns₁ hsb₁ ⊢
  generalize hH2 : s₂.heap.push { cls := .type "list", dict := none, data := .seq ([] : List Value).toArray } = H2 at hns₁ hsb₁ ⊢
  have hC : H2.objs.size = s₂.heap.objs.size + 1 := by rw [← hH2, Heap.size_push]
  have hDC : s₂.heap.objs.size ≠ H2.objs.size := by rw [hC]; exact Nat.ne_of_lt (Nat.lt_succ_self _)
  have old : ∀ b o, s₂.heap.get? b = some o → h₁.get? b = some o := fun b o e => hsb₁.extBut b o (by
    rw [hC]; exact Nat.ne_of_lt (Nat.lt_succ_of_lt (Heap.lt_size e))) (Heap.get?_push_of_some _ (hH2 ▸ Heap.get?_push_of_some _ e))
  have hacc : h₁.PlainList s₂.heap.objs.size #[] := ⟨_, hsb₁.extBut _ _ hDC (Heap.get?_push_of_some _ (hH2 ▸ Heap.get?_push_size _ rfl))⟩
  have hst₁ : St 0 h₁ := W.w.frame _ _ _ W.st fun b _ o e => old b o e
  have freshC : s₂.heap.get? H2.objs.size = none := get_none_of_size (by rw [hC]; omega)
  have freshD : s₂.heap.get? s₂.heap.objs.size = none := get_none_of_size (Nat.le_refl _)
  have nfp : ∀ b, s₂.heap.objs.size ≤ b → b ∉ fp := fun b hb hm => absurd (W.below b hm) (Nat.not_lt.mpr hb)
  have l2 : Lt κ.T NoX s₂ ⟨h₁, s₂.gens, s₂.drawn, s₂.toks + ([] : List (Str × Value)).length, s₂.os⟩ := .of_keep old
  have hxk : (compEnvC scope cl H2.objs.size env).kindOf x = some .local := lookup_relabel_local hx
  have loop : codeAny κ.M A (.compLoop (.ListComp elt [⟨.Name x px, iter, ifs, 0⟩] scope pos) 0 (.ref I) (.ref s₂.heap.objs.size) (compEnvC scope cl H2.objs.size env))
      (compPost κ.M A E use Q (.ref s₂.heap.objs.size) H2.objs.size) ⟨h₁, s₂.gens, s₂.drawn, s₂.toks + ([] : List (Str × Value)).length, s₂.os⟩ := by
    refine comp_loop (keep := keep) (f := f) (X := fun b => b = H2.objs.size) (J := fun h' => ∃ m', h'.Ns H2.objs.size m') (K := fun v h' => ∃ m', h'.Ns H2.objs.size m' ∧ m' x = some v) rm W hz y l02 l2 y₂.tk
      (by rintro b rfl; exact freshC) freshD (fun q => hDC q) (nfp _ (Nat.le_refl _)) hst₁ hacc ⟨_, hns₁⟩ (by rintro b rfl; exact nfp _ (by rw [hC]; omega)) ?_ ?_ ?_ ?_ ?_ ?_ ?_ ?_ ?_
    · rintro b h' o rfl ⟨m', o', es, ep, e', hd, _⟩ e q
      rw [e] at e'; cases e'; exact q.ne hd rfl
    · rintro h' h'' ⟨m', hn⟩ e
      exact ⟨m', ns_extB e (by rintro (q | q); exact hDC q.symm; exact nfp _ (by rw [hC]; omega) (W.w.sub _ q)) hn⟩
    · rintro v h' ⟨m', hn, _⟩; exact ⟨m', hn⟩
    · rintro v h' h'' ⟨m', hn, hv⟩ e
      exact ⟨m', ns_extB e (by rintro (q | q); exact hDC q.symm; exact nfp _ (by rw [hC]; omega) (W.w.sub _ q)) hn, hv⟩
    · rintro v h' Y ⟨m', hn, hv⟩ hXY _
      exact ⟨m', hn.at' fun o e => by rw [cutH_yes (hXY _ rfl)]; exact e, hv⟩
    · rintro v s' Q' E' ⟨m', hn⟩ k
      refine wpAny_assign_Name (wpAny_storeName_local hxk hn (fun h₂ hn₂ hs₂ => k h₂ _ (Nat.le_succ _) ⟨_, hn₂, by simp⟩ (ExtB.sameBut hs₂ rfl) (calm_ns hn hs₂)) (by rw [show (compEnvC scope cl H2.objs.size env).scope.kind = .function from hkind]; rfl))
    · rintro i v d h' k hd dv ⟨m', hn, hv⟩
      exact test _ i v d h' k hd dv (F.comp k hkind hcl hx hn hv)
    · rintro i v d h' k hd dv ⟨m', hn, hv⟩ hkd
      exact helt _ i v d h' k hd dv (F.comp k hkind hcl hx hn hv) hkd
    · rintro s' ys l ⟨m', hn⟩ hl hdat htk
      have vD : V s₂.heap.objs.size := y.vis _ (.inr (Ext.back l02.ext freshD))
      have ls : Lt κ.T NoX s s' := by
        refine ⟨ExtB.fresh (l02.trans l2).ext l.ext ?_, fun g => l.gens ((l02.trans l2).gens g), l.os.trans (l02.trans l2).os, fun g => l.ok ((l02.trans l2).ok g), fun g => ⟨(l.same g).1.trans ((l02.trans l2).same g).1, (l.same g).2.trans ((l02.trans l2).same g).2⟩⟩
        rintro b (rfl | rfl | hb)
        · exact Ext.back l02.ext freshC
        · exact Ext.back l02.ext freshD
        · exact W.new b hb
      exact hend _ _ s' (.list vD hl hdat) ls (Ext.back l02.ext freshC) ⟨m', hn⟩ hDC.symm ⟨y.ext.trans ls.ext, htk, ls.ok y.ok, fun b e => y.vis b (e.imp id fun q => Ext.back ls.ext q)⟩
  exact codeAny_compStart_list loop (W.w.self 0 _ _ _ hst₁ loop)

theorem kv_ns {V : Addr → Prop} {h h' : Heap} {C : Addr} {m : Str → Option Value} (hn : h.Ns C m) (hs : Heap.SameBut C h h') : Kv V h h' := fun b o _ e hd => hs.extBut b o (fun z => by
  obtain ⟨o', es, ep, e', hd', _⟩ := hn
  rw [z, e'] at e; cases e; exact hd.ne hd' rfl) e
theorem kv_cell {V : Addr → Prop} {h h' : Heap} {C : Addr} {u : Option Value} (hn : h.IsCell C u) (hs : Heap.SameBut C h h') : Kv V h h' := fun b o _ e hd => hs.extBut b o (fun z => by
  obtain ⟨o', e', hd'⟩ := hn
  rw [z, e'] at e; cases e; exact hd.ne hd' rfl) e
theorem Lt.goC {T : Tb} {s s' : Shared} {C : Addr} {h' : Heap} {tk : Nat} (l : Lt T NoX s s') (hC : s.heap.get? C = none) (hs : Heap.SameBut C s'.heap h') (cm : Calm s'.heap h') : Lt T NoX s ⟨h', s'.gens, s'.drawn, tk, s'.os⟩ :=
  ⟨ExtB.fresh l.ext (ExtB.sameBut (X := fun b => b = C) hs rfl) (by rintro b rfl; exact hC), l.gens, l.os, fun g => T.st _ _ (l.ok g) cm, l.same⟩

end Mine
end
section
open PySem PySem.W PySem.W.X PyProof.Rows PySem.Calls
set_option Elab.async false
set_option maxRecDepth 100000
namespace Mine
variable {κ : Cx} {n : Nat} {env : Env} {h : Heap} {A : Around} {s s₀ : Shared} {V : Addr → Prop} {ρ : Str → Option Value}

theorem cutH_mono {T : Tb} {K : Addr → Prop} {h h' : Heap} (e : Ext T h h') : Ext T (cutH K h) (cutH K h') := fun b o x eb => by
  by_cases k : K b
  · rw [cutH_yes k] at eb ⊢; exact e b o x eb
  · rw [cutH_no k] at eb; cases eb
theorem cutH_same {K : Addr → Prop} {h h' : Heap} {a : Addr} (e : Heap.SameBut a h h') : ∀ b, b ≠ a → (cutH K h').get? b = (cutH K h).get? b := fun b hb => by
  by_cases k : K b
  · rw [cutH_yes k, cutH_yes k]; exact e.2 b hb
  · rw [cutH_no k, cutH_no k]
theorem Dn.cut {K : Addr → Prop} {h : Heap} {v : Value} {d : Da} (x : Dn K h v d) : Dn K (cutH K h) v d := x.kv fun b o kb e _ => by rw [cutH_yes kb]; exact e
/-- within a call that began at s₀ (seen from h on): the frame env, its names as ρ says -/
structure In (κ : Cx) (h : Heap) (V : Addr → Prop) (s₀ : Shared) (env : Env) (ρ : Str → Option Value) (s : Shared) : Prop where
  b : Base κ h
  y : At κ h V s₀
  l : Lt κ.T NoX s₀ s
  tk : 0 < s.toks
  fm : Fm κ (cutH V s.heap) env ρ
  newL : s₀.heap.get? env.locals = none
  newC : ∀ x a, env.cells.lookup x = some a → s₀.heap.get? a = none
  inj : ∀ x y a, env.cells.lookup x = some a → env.cells.lookup y = some a → x = y
theorem In.at (F : In κ h V s₀ env ρ s) : At κ (cutH V s.heap) V s := cutH_at F.tk (F.l.ok F.y.ok) fun a e => F.y.vis a (.inr (Ext.back F.l.ext e))
theorem In.at0 (F : In κ h V s₀ env ρ s) : At κ h V s := F.y.on F.l F.tk
theorem In.ext (F : In κ h V s₀ env ρ s) : Ext κ.T h (cutH V s.heap) := cutH_of (F.y.ext.trans F.l.ext) fun a e => F.y.vis a (.inl e)
theorem In.vL (F : In κ h V s₀ env ρ s) : V env.locals := F.y.vis _ (.inr F.newL)
theorem In.on {s' : Shared} (F : In κ h V s₀ env ρ s) (l : Lt κ.T NoX s s') (t : 0 < s'.toks) : In κ h V s₀ env ρ s' :=
  ⟨F.b, F.y, F.l.trans l, t, F.fm.ext (cutH_mono l.ext), F.newL, F.newC, F.inj⟩
/-- an expression's value, and the frame behind it -/
theorem In.go {e : Expr} {P : Pr} (F : In κ h V s₀ env ρ s) (x : Ev κ n env (cutH V s.heap) e P) (rm : Rm n A) {Q : Value → Shared → Prop} {E : Value → Shared → Prop}
    (k : ∀ v s', P V v s'.heap → Lt κ.T NoX s s' → In κ h V s₀ env ρ s' → Q v s') : wpAny κ.M A (eval e env) Q E s :=
  x.go rm F.at fun v s' p l y => k v s' p l (F.on l y.tk)
noncomputable def put (x : Str) (v : Value) (ρ : Str → Option Value) : Str → Option Value := fun y => if y = x then some v else ρ y

/-- a store keeps all that holds items -/
theorem In.store {x : Str} {v : Value} {Q : Unit → Shared → Prop} {E : Value → Shared → Prop} (F : In κ h V s₀ env ρ s) (hl : env.kindOf x = some .local ∨ (env.kindOf x = some .cell ∧ (env.cells.lookup x).isSome = true))
    (k : ∀ s', In κ h V s₀ env (put x v ρ) s' → Kv V s.heap s'.heap → ExtB κ.T (fun b => b = env.locals ∨ ∃ y, env.cells.lookup y = some b) s.heap s'.heap → Q () s') : wpAny κ.M A (storeName env x v) Q E s := by
  have hkind := F.fm.kind
  rcases hl with hk | ⟨hk, ha⟩
  · refine Classical.byContradiction fun nay => ?_
    obtain ⟨m, hn, hm⟩ := F.fm.ns
    refine nay ?_
    clear nay
    have hn' : s.heap.Ns env.locals m := hn.at' fun o e => by rw [cutH_yes F.vL] at e; exact e
    refine wpAny_storeName_local hk hn' (fun h' hn2 hs => k _ ?_ (kv_ns hn' hs) (ExtB.sameBut hs (.inl rfl))) (by rw [hkind]; rfl)
    have l' : Lt κ.T NoX s₀ ⟨h', s.gens, s.drawn, s.toks + 1, s.os⟩ := F.l.goC F.newL hs (calm_ns hn' hs)
    refine ⟨F.b, F.y, l', Nat.succ_pos _, ⟨F.b.ext (cutH_of (F.y.ext.trans l'.ext) fun a e => F.y.vis a (.inl e)), hkind, F.fm.glob, F.fm.blt, ⟨_, hn2.at' fun o e => (by rw [cutH_yes F.vL]; exact e), fun y u hy hu => ?_⟩, fun y a e => ?_⟩, F.newL, F.newC, F.inj⟩
    · unfold put at hu
      by_cases q : y = x
      · rw [if_pos q] at hu ⊢; exact hu
      · rw [if_neg q] at hu ⊢; exact hm y u hy hu
    · refine Classical.byContradiction fun nay => ?_
      obtain ⟨u, p, r⟩ := F.fm.cl y a e
      refine nay ?_
      clear nay
      have na : a ≠ env.locals := fun q => by
        refine Classical.byContradiction fun nay => ?_
        obtain ⟨o, e1, hd⟩ := p
        obtain ⟨o', es, ep, e2, hd', _⟩ := hn
        refine nay ?_
        clear nay
        rw [q, e2] at e1; cases e1; rw [hd'] at hd; cases hd
      refine ⟨u, by obtain ⟨o, e1, hd⟩ := p; exact ⟨o, (cutH_same hs a na).trans e1, hd⟩, fun u' hy hu => r u' hy ?_⟩
      unfold put at hu
      by_cases q : y = x
      · exact absurd (q ▸ hk) hy
      · rw [if_neg q] at hu; exact hu
  · refine Classical.byContradiction fun nay => ?_
    obtain ⟨a, ha⟩ := Option.isSome_iff_exists.mp ha
    obtain ⟨u, p, r⟩ := F.fm.cl x a ha
    refine nay ?_
    clear nay
    have va : V a := F.y.vis _ (.inr (F.newC x a ha))
    have p' : s.heap.IsCell a u := by obtain ⟨o, e, hd⟩ := p; exact ⟨o, (by rw [cutH_yes va] at e; exact e), hd⟩
    refine wpAny_storeName_cell hkind hk ha p' fun h' hc hs => k _ ?_ (kv_cell p' hs) (ExtB.sameBut hs (.inr ⟨x, ha⟩))
    have l' : Lt κ.T NoX s₀ ⟨h', s.gens, s.drawn, s.toks, s.os⟩ := F.l.goC (F.newC x a ha) hs (calm_cell p' hs)
    refine Classical.byContradiction fun nay => ?_
    obtain ⟨m, hn, hm⟩ := F.fm.ns
    refine nay ?_
    clear nay
    have nL : env.locals ≠ a := fun q => by
      refine Classical.byContradiction fun nay => ?_
      obtain ⟨o, e1, hd⟩ := p
      obtain ⟨o', es, ep, e2, hd', _⟩ := hn
      refine nay ?_
      clear nay
      rw [q, e1] at e2; cases e2; rw [hd'] at hd; cases hd
    refine ⟨F.b, F.y, l', F.tk, ⟨F.b.ext (cutH_of (F.y.ext.trans l'.ext) fun a e => F.y.vis a (.inl e)), hkind, F.fm.glob, F.fm.blt, ⟨m, hn.at' fun o e => (cutH_same hs _ nL).trans e, fun y u hy hu => ?_⟩, fun y b e => ?_⟩, F.newL, F.newC, F.inj⟩
    · unfold put at hu
      by_cases q : y = x
      · rw [q, hk] at hy; cases hy
      · rw [if_neg q] at hu; exact hm y u hy hu
    · unfold put
      by_cases q : y = x
      · subst q
        obtain rfl : a = b := Option.some.inj (ha.symm.trans e)
        exact ⟨some v, by obtain ⟨o, e1, hd⟩ := hc; exact ⟨o, (by rw [cutH_yes va]; exact e1), hd⟩, fun u' _ hu => by rw [if_pos rfl] at hu; exact hu⟩
      · refine Classical.byContradiction fun nay => ?_
        obtain ⟨u', p2, r2⟩ := F.fm.cl y b e
        refine nay ?_
        clear nay
        have nb : b ≠ a := fun z => q (F.inj y x a (z ▸ e) ha)
        exact ⟨u', by obtain ⟨o, e1, hd⟩ := p2; exact ⟨o, (cutH_same hs b nb).trans e1, hd⟩, fun w hy hu => r2 w hy (by rw [if_neg q] at hu; exact hu)⟩

/-! ## statements -/
end Mine
end
section
open PySem PySem.W PySem.W.X PyProof.Rows PySem.Calls
set_option Elab.async false
set_option maxRecDepth 100000
namespace Mine
variable {κ : Cx} {n : Nat} {env : Env} {h : Heap} {A : Around} {s s₀ : Shared} {V : Addr → Prop} {ρ : Str → Option Value}

/-! ## truth -/
theorem evb_of {c : Expr} {b : Bool} (a : Ev κ n env h c (Is (.bool b)))
    (he : ∀ whole, isTrue c env whole = (do let v ← whole; standAt c.pos; holding [v] (truthy v)) := by intro _; rfl) : EvB κ n env h c b := fun A s V rm y =>
  isTrue_plain (a.go rm y fun v s1 p l _ => by cases p; exact wpAny_truthy_bool ⟨rfl, l⟩) (he _)
theorem evb_cmp {l r : Expr} {o : CmpOp} {pos : Pos} {P1 P2 : Pr} {b : Bool} (h1 : Ev κ n env h l P1) (p1 : Per κ P1) (h2 : Ev κ n env h r P2)
    (op : ∀ A s V a b, Rm n A → P1 V a s.heap → P2 V b s.heap → Gv κ V A (compareOp o a b) s (Is (.bool b'))) (hb : b' = b) (hm : behindInMarks o r = false := by with_unfolding_all rfl) : EvB κ n env h (.Compare l [o] [r] pos) b := by
  intro A s V rm y
  subst hb
  refine wpAny_isTrue_Compare1 (h1.go rm y fun a s1 pa l1 y1 => h2.go rm y1 fun b s2 pb l2 y2 => ?_) hm
  exact (op A s2 V a b rm (p1 _ _ _ _ l2.ext pa) pb).go y2 fun v s3 p l3 y3 => by cases p; exact wpAny_truthy_bool ⟨rfl, (l1.trans l2).trans l3⟩
theorem evb_not {c : Expr} {pos : Pos} {b : Bool} (a : EvB κ n env h c b) : EvB κ n env h (.UnaryOp .Not c pos) (!b) := fun A s V rm y =>
  isTrue_not (a.go rm y fun s' l _ => ⟨rfl, l⟩)
theorem evb_or {x z : Expr} {pos : Pos} {a b : Bool} (h1 : EvB κ n env h x a) (h2 : a = false → EvB κ n env h z b) : EvB κ n env h (.BoolOp .Or [x, z] pos) (a || b) := fun A s V rm y => by
  refine wpAny_isTrue_BoolOp (wpAny_allTrue_Or_cons (h1.go rm y fun s1 l1 y1 => ?_))
  cases a
  · rw [if_neg (by simp)]
    refine wpAny_allTrue_Or_cons ((h2 rfl).go rm y1 fun s2 l2 y2 => ?_)
    cases b
    · rw [if_neg (by simp)]
      exact wpAny_allTrue_Or_nil ⟨rfl, l1.trans l2⟩
    · rw [if_pos rfl]
      exact ⟨rfl, l1.trans l2⟩
  · rw [if_pos rfl]
    exact ⟨rfl, l1⟩
theorem evb_lt_int {l r : Expr} {pos : Pos} {a b : Int} {t : Bool} (h1 : Ev κ n env h l (Is (.int a))) (h2 : Ev κ n env h r (Is (.int b))) (ht : decide (a < b) = t) (hm : behindInMarks .Lt r = false := by with_unfolding_all rfl) : EvB κ n env h (.Compare l [.Lt] [r] pos) t :=
  evb_cmp h1 Is.per h2 (fun _ s _ _ _ _ x y => by cases x; cases y; exact P.lt_int ⟨.bool _, .refl s⟩) ht hm
theorem evb_ge_int {l r : Expr} {pos : Pos} {a b : Int} {t : Bool} (h1 : Ev κ n env h l (Is (.int a))) (h2 : Ev κ n env h r (Is (.int b))) (ht : decide (a ≥ b) = t) (hm : behindInMarks .GtE r = false := by with_unfolding_all rfl) : EvB κ n env h (.Compare l [.GtE] [r] pos) t :=
  evb_cmp h1 Is.per h2 (fun _ s _ _ _ _ x y => by cases x; cases y; exact P.ge_int ⟨.bool _, .refl s⟩) ht hm
theorem evb_eq_int {l r : Expr} {pos : Pos} {a b : Int} {t : Bool} (h1 : Ev κ n env h l (Is (.int a))) (h2 : Ev κ n env h r (Is (.int b))) (ht : (a == b) = t) (hm : behindInMarks .Eq r = false := by with_unfolding_all rfl) : EvB κ n env h (.Compare l [.Eq] [r] pos) t :=
  evb_cmp h1 Is.per h2 (fun _ s _ _ _ _ x y => by cases x; cases y; exact eq_int ⟨.bool _, .refl s⟩) ht hm
theorem evb_eq_str {l r : Expr} {pos : Pos} {a b : Str} {t : Bool} (h1 : Ev κ n env h l (Is (.str a))) (h2 : Ev κ n env h r (Is (.str b))) (ht : (a == b) = t) (hm : behindInMarks .Eq r = false := by with_unfolding_all rfl) : EvB κ n env h (.Compare l [.Eq] [r] pos) t :=
  evb_cmp h1 Is.per h2 (fun _ s _ _ _ _ x y => by cases x; cases y; exact eq_str ⟨.bool _, .refl s⟩) ht hm
theorem evb_ne_str {l r : Expr} {pos : Pos} {a b : Str} {t : Bool} (h1 : Ev κ n env h l (Is (.str a))) (h2 : Ev κ n env h r (Is (.str b))) (ht : (a != b) = t) (hm : behindInMarks .NotEq r = false := by with_unfolding_all rfl) : EvB κ n env h (.Compare l [.NotEq] [r] pos) t :=
  evb_cmp h1 Is.per h2 (fun _ s _ _ _ _ x y => by cases x; cases y; exact ne_str ⟨.bool _, .refl s⟩) ht hm
theorem evb_ne {l r : Expr} {pos : Pos} {a b : Da} {t : Bool} (h1 : Ev κ (n + 1) env h l (Is a)) (h2 : Ev κ (n + 1) env h r (Is b)) (ha : SeqAt.shaped a.py = true) (hb : SeqAt.shaped b.py = true) (qa : a.pure = true) (qb : b.pure = true) (ht : (!PyData.eqv a.py b.py) = t) (hm : behindInMarks .NotEq r = false := by with_unfolding_all rfl) : EvB κ (n + 1) env h (.Compare l [.NotEq] [r] pos) t :=
  evb_cmp h1 Is.per h2 (fun _ s _ _ _ rm x y => by
    obtain ⟨_, ra⟩ := x.reads qa
    obtain ⟨_, rb⟩ := y.reads qb
    exact SeqAt.compareNe_shaped ra rb ha hb rm.units64 ⟨.bool _, .refl s⟩) ht hm
/-! ## a if c else b -/
theorem ev_ifexp {c x z : Expr} {pos : Pos} {b : Bool} {P : Pr} (h0 : EvB κ n env h c b) (h1 : b = true → Ev κ n env h x P) (h2 : b = false → Ev κ n env h z P) : Ev κ n env h (.IfExp c x z pos) P := fun A s V rm y => by
  refine wpAny_IfExp (h0.go rm y fun s1 l1 y1 => ?_)
  cases b
  · rw [if_neg (by simp)]; exact (h2 rfl A s1 V rm y1).after l1
  · rw [if_pos rfl]; exact (h1 rfl A s1 V rm y1).after l1
theorem ev_and {x z : Expr} {pos : Pos} {a b : Bool} (h1 : Ev κ n env h x (Is (.bool a))) (h2 : a = true → Ev κ n env h z (Is (.bool b))) : Ev κ n env h (.BoolOp .And [x, z] pos) (Is (.bool (a && b))) := fun A s V rm y => by
  refine wpAny_And2 (h1.go rm y fun v s1 p l1 y1 => ?_)
  cases p
  refine wpAny_truthy_bool ?_
  cases a
  · rw [if_neg (by simp)]; exact ⟨.bool _, l1⟩
  · rw [if_pos rfl]; exact (h2 rfl A s1 V rm y1).after l1

/-! ## a def's call -/
structure CodeOk (h : Heap) (cd : Value) (q : Str) : Prop where
  ok : ∃ c o vs t, cd = .ref c ∧ h.get? c = some o ∧ o.cls = .type "code" ∧ o.data = .fields vs ∧ vs[1]? = some (.str q t)
theorem CodeOk.toRec {cd : Value} {q : Str} (x : CodeOk h cd q) : h.CodeRec cd q := by obtain ⟨c, o, vs, t, a, b, _, d, e⟩ := x.ok; exact ⟨c, o, vs, t, a, b, d, e⟩
theorem CodeOk.ext {T : Tb} {cd : Value} {q : Str} {h' : Heap} (x : CodeOk h cd q) (k : Ext T h h') : CodeOk h' cd q :=
  by obtain ⟨c, o, vs, t, a, b, d, r⟩ := x.ok; exact ⟨c, o, vs, t, a, Ext.get k b (by rw [d]; exact fun z => by cases z), d, r⟩
structure FnAt (h : Heap) (f : Addr) (fd : FuncData) : Prop where
  at_ : ∃ o, h.get? f = some o ∧ o.data = .func fd
  code : CodeOk h fd.code fd.qualname
theorem FnAt.ext {T : Tb} {f : Addr} {fd : FuncData} {h' : Heap} (x : FnAt h f fd) (k : Ext T h h') : FnAt h' f fd :=
  ⟨by obtain ⟨o, e, hd⟩ := x.at_; exact ⟨o, Ext.get_data k e fun vs q => (by rw [hd] at q; cases q), hd⟩, x.code.ext k⟩

/-- what a def's body must show -/
noncomputable def Body (κ : Cx) (n : Nat) (h : Heap) (f : Addr) (fd : FuncData) (body : List Stmt) (binds : List (Str × Value)) (V : Addr → Prop) (s₀ : Shared) (P : Pr) : Prop :=
  ∀ A s, Rm n A → In κ h V s₀ (callEnvC fd s₀.heap.objs.size f) (fun x => binds.reverse.lookup x) s → Kv V s₀.heap s.heap →
    wpAny κ.M A (execs body (callEnvC fd s₀.heap.objs.size f)) (fun fl s' => (∃ v, fl = .ret v ∧ P V v s'.heap) ∧ Lt κ.T NoX s₀ s') (fun _ _ => False) s
theorem bindL_of {kindOf : Str → Option NameKind} : ∀ (binds : List (Str × Value)) (m : Str → Option Value) (x : Str) (v : Value), kindOf x = some .local → (binds.reverse.lookup x).or (m x) = some v → bindL kindOf binds m x = some v
  | [], m, x, v, _, e => by
    show m x = some v
    simpa using e
  | (y, u) :: r, m, x, v, hk, e => by
    unfold bindL
    refine bindL_of r _ x v hk ?_
    rw [List.reverse_cons, List.lookup_append] at e
    by_cases hxy : x = y
    · subst hxy
      rw [if_pos hk, if_pos rfl]
      simpa [List.lookup_cons, Option.or_assoc] using e
    · have hb : (x == y) = false := by simpa using hxy
      have : (if kindOf y = some .local then fun z => if z = y then some u else m z else m) x = m x := by
        split
        · exact if_neg hxy
        · rfl
      rw [this]
      simpa [List.lookup_cons, hb] using e
theorem bindC_of {kindOf : Str → Option NameKind} : ∀ (binds : List (Str × Value)) (m : Str → Option Value) (x : Str) (v : Value), kindOf x ≠ some .local → (binds.reverse.lookup x).or (m x) = some v → bindC kindOf binds m x = some v
  | [], m, x, v, _, e => by
    show m x = some v
    simpa using e
  | (y, u) :: r, m, x, v, hk, e => by
    unfold bindC
    refine bindC_of r _ x v hk ?_
    rw [List.reverse_cons, List.lookup_append] at e
    by_cases hxy : x = y
    · subst hxy
      rw [if_neg hk, if_pos rfl]
      simpa [List.lookup_cons, Option.or_assoc] using e
    · have hb : (x == y) = false := by simpa using hxy
      have : (if kindOf y = some .local then m else fun z => if z = y then some u else m z) x = m x := by
        split
        · rfl
        · exact if_neg hxy
      rw [this]
      simpa [List.lookup_cons, hb] using e
theorem fun_def {f : Addr} {fd : FuncData} {body : List Stmt} {Pa : (Addr → Prop) → List Value → Heap → Prop} {P : Pr} (b : Base κ h) (fa : FnAt h f fd) (hb : fd.body = .stmts body) (hclo : fd.closure = []) (hg : fd.globals = mainGlobals) (hbl : fd.builtins = builtinsNs)
    (hco : fd.scope.isCoroutine = false) (hge : fd.scope.isGenerator = false) (hk : fd.scope.kind = .function)
    (hbody : ∀ V s₀ vs, At κ h V s₀ → Pa V vs s₀.heap → ∃ binds, bindArgs fd ⟨vs, []⟩ = pure binds ∧
      (∀ x ∈ binds, fd.scope.names.lookup x.1 = some .local ∨ (fd.scope.names.lookup x.1 = some .cell ∧ ((cellsFrom (s₀.heap.objs.size + 1) fd.scope.names []).lookup x.1).isSome = true)) ∧ Body κ n h f fd body binds V s₀ P) :
    Fun κ (n + 1) h (.ref f) Pa P := by
  intro A s V vs rm y pa
  obtain ⟨binds, hbind, hkind, hB⟩ := hbody V s vs y pa
  have fa' := fa.ext y.ext
  obtain ⟨o, ho, hd⟩ := fa'.at_
  refine wpAny_call (codeAny_call_function rm.depth ho hd hco hge hb fa'.code.toRec ?_)
  rw [hbind]
  refine wpAny_pure ?_
  rw [hclo]
  refine wpAny_with_toks (n := 1) y.tk (wpAny_newFunctionEnv_cells hk hkind fun env henv s' C tk => ?_)
  obtain rfl : env = callEnvC fd s.heap.objs.size f := henv
  obtain ⟨h₁, tk₁, rfl, hkeep⟩ := C.done
  have l : Lt κ.T NoX s ⟨h₁, s.gens, s.drawn, tk₁, s.os⟩ := .of_keep hkeep
  have freshL : s.heap.get? s.heap.objs.size = none := get_none_of_size (Nat.le_refl _)
  have vL : V s.heap.objs.size := y.vis _ (.inr freshL)
  have freshC : ∀ x a, (callEnvC fd s.heap.objs.size f).cells.lookup x = some a → s.heap.get? a = none := fun x a e =>
    get_none_of_size (Nat.le_of_lt (C.above x a (mem_of_lookup e)))
  have F : In κ h V s (callEnvC fd s.heap.objs.size f) (fun x => binds.reverse.lookup x) ⟨h₁, s.gens, s.drawn, tk₁, s.os⟩ := by
    refine ⟨b, y, l, tk, ⟨b.ext (cutH_of (y.ext.trans l.ext) fun a e => y.vis a (.inl e)), hk, hg, hbl, ⟨_, C.toInCall.ns.at' fun o e => (cutH_yes (h := h₁) vL).trans e, fun x v hx hv => bindL_of binds _ x v hx (by rw [hv]; rfl)⟩, fun x a e => ?_⟩, freshL, freshC,
      fun x y a e1 e2 => name_of_addr C.apart (mem_of_lookup e1) (mem_of_lookup e2)⟩
    obtain ⟨o, eo, hdo⟩ := C.cell x a e
    have va : V a := y.vis _ (.inr (freshC x a e))
    exact ⟨_, ⟨o, (cutH_yes (h := h₁) va).trans eo, hdo⟩, fun v hx hv => bindC_of binds _ x v hx (by rw [hv]; rfl)⟩
  refine ⟨(b.ext (y.ext.trans l.ext)).lim, codeAny_func ?_⟩
  refine wpAny_mono (hB _ _ rm.deeper F (fun b o _ e q => hkeep b o e)) (fun fl s' q => ?_) fun _ _ z => z.elim
  obtain ⟨⟨v, rfl, p⟩, l'⟩ := q
  exact ⟨p, l'⟩
end Mine
end
section
open PySem PySem.W PySem.W.X PyProof.Rows PySem.Calls
set_option Elab.async false
set_option maxRecDepth 100000
namespace Mine
variable {κ : Cx} {n : Nat} {env : Env} {h : Heap} {A : Around} {s s₀ : Shared} {V : Addr → Prop} {ρ : Str → Option Value}

/-! ## texts -/
theorem ev_char {value slice : Expr} {pos : Pos} {x : Str} {k : Nat} {c : Nat} (a : Ev κ n env h value (Is (.str x))) (b : Ev κ n env h slice (Is (.int k))) (hz : x.length ≤ sizeLine) (hd : x.cps[k]? = some c)
    (hs : ∀ o i, subscripted slice false o i = operate [o, i] (getItem o i) := by intro _ _; with_unfolding_all rfl) : Ev κ n env h (.Subscript value slice pos) (Is (.str ⟨#[c]⟩)) := by
  intro A s V rm y
  refine Subscript_ (a.go rm y fun o s1 po l1 y1 => b.go rm y1 fun i s2 pi l2 y2 => ?_)
  cases pi; cases po
  have hk : k < x.length := (Array.getElem?_eq_some_iff.mp hd).1
  have hz' : k < 16777216 := Nat.lt_of_lt_of_le hk (by simpa [sizeLine] using hz)
  refine tail_any (T := "str") (typeIs_str _ _ _) F.slot_str_getitem.lookup (P.getItem_str (c := c) ?_ ?_ ⟨.str _ _, (l1.trans l2).trans .toks⟩) (hs _ _)
  · simp only [Bool.or_eq_false_iff, decide_eq_false_iff_not]; omega
  · have hn : ¬ ((k : Int) < 0) := by omega
    simp only [seqIndex?, if_neg hn]
    rw [if_pos (by simp only [Bool.and_eq_true, decide_eq_true_eq]; omega)]
    simpa using hd
theorem keptH_ext {h : Heap} : KeptH (fun h' => ∀ b o, h.get? b = some o → h'.get? b = some o) := fun h' ob e b o q => Heap.get?_push_of_some _ (e b o q)
theorem itemOn_tail {prog : Program} {w : World} {A : Around} {E : Value → Shared → Prop} {value slice : Expr} {o i : Value} {ops : List Value} {Q : Value → Shared → Prop} {s : Shared} (x : ItemOn (model prog w) A E o i Q s) (hs : subscripted slice false o i = operate ops (getItem o i)) :
    wpAny (model prog w) A (subscriptTail value slice o i) Q E s := by obtain ⟨_, _, a, b, c⟩ := x; exact tail_any b a c hs
theorem ev_cut_ss {value l u : Expr} {p pos : Pos} {x : Str} {i j : Int} (a : Ev κ n env h value (Is (.str x))) (b : Ev κ n env h l (Is (.int i))) (c : Ev κ n env h u (Is (.int j))) (hz : x.length ≤ sizeLine) :
    Ev κ n env h (.Subscript value (.Slice (some l) (some u) none p) pos) (Is (.str (Txt.slice x (some i) (some j)))) := by
  intro A s V rm y
  refine Subscript_ (a.go rm y fun o s1 po l1 y1 => wpAny_Slice (wpAny_evalPart_some (b.go rm y1 fun vi s2 pi l2 y2 => wpAny_evalPart_some (c.go rm y2 fun vj s3 pj l3 y3 => wpAny_evalPart_none ?_))))
  cases po; cases pi; cases pj
  exact itemOn_tail (SBH.sliceItem_ss (keptH_ext (h := s3.heap)) (fun _ _ q => q) (fun h' t' k e => ⟨.str _ _, ((l1.trans l2).trans l3).trans (.of_keep e)⟩) hz) rfl
theorem ev_cut_ns {value u : Expr} {p pos : Pos} {x : Str} {j : Int} (a : Ev κ n env h value (Is (.str x))) (c : Ev κ n env h u (Is (.int j))) (hz : x.length ≤ sizeLine) :
    Ev κ n env h (.Subscript value (.Slice none (some u) none p) pos) (Is (.str (Txt.slice x none (some j)))) := by
  intro A s V rm y
  refine Subscript_ (a.go rm y fun o s1 po l1 y1 => wpAny_Slice (wpAny_evalPart_none (wpAny_evalPart_some (c.go rm y1 fun vj s3 pj l3 y3 => wpAny_evalPart_none ?_))))
  cases po; cases pj
  exact itemOn_tail (SBH.sliceItem_ns (keptH_ext (h := s3.heap)) (fun _ _ q => q) (fun h' t' k e => ⟨.str _ _, (l1.trans l3).trans (.of_keep e)⟩) hz) rfl
theorem ev_notin {l r : Expr} {pos : Pos} {x y : Str} (h1 : Ev κ n env h l (Is (.str y))) (h2 : Ev κ n env h r (Is (.str x))) (hm : behindInMarks .NotIn r = false := by with_unfolding_all rfl) : Ev κ n env h (.Compare l [.NotIn] [r] pos) (Is (.bool (!Txt.contains x y))) :=
  ev_cmp h1 Is.per h2 (fun _ s _ _ _ _ a b => by cases a; cases b; exact SB.notContains ⟨.bool _, .refl s⟩) hm
theorem evb_notin {l r : Expr} {pos : Pos} {x y : Str} {t : Bool} (h1 : Ev κ n env h l (Is (.str y))) (h2 : Ev κ n env h r (Is (.str x))) (ht : (!Txt.contains x y) = t) (hm : behindInMarks .NotIn r = false := by with_unfolding_all rfl) : EvB κ n env h (.Compare l [.NotIn] [r] pos) t :=
  evb_cmp h1 Is.per h2 (fun _ s _ _ _ _ a b => by cases a; cases b; exact SB.notContains ⟨.bool _, .refl s⟩) ht hm
theorem ev_mul_str {l r : Expr} {pos : Pos} {x : Str} {k : Int} (h1 : Ev κ n env h l (Is (.str x))) (h2 : Ev κ n env h r (Is (.int k))) (ok : MulOk x k) : Ev κ n env h (.BinOp l .Mult r pos) (Is (.str (Txt.mul x k))) :=
  ev_bin h1 Is.per h2 fun _ _ _ _ _ _ a b => by cases a; cases b; exact SB.mul ok fun _ _ => ⟨.str _ _, .toks⟩

/-! ## len, sum, chr -/
noncomputable abbrev One (P : Pr) : (Addr → Prop) → List Value → Heap → Prop := fun V vs h => ∃ v, vs = [v] ∧ P V v h
theorem evl_one {e : Expr} {P : Pr} (a : Ev κ n env h e P) (p : Per κ P) (he : ∀ pos, backTo pos (starEach [e] env) = (false, eval e env) :: backTo pos (starEach [] env) := by intro _; rfl) : EvL κ n env h [e] (One P) := fun pos A s V rm y =>
  wpAny_mono (evl_cons a p evl_nil he pos A s V rm y) (fun _ _ q => by obtain ⟨⟨v, vs, rfl, p1, p2⟩, l⟩ := q; subst p2; exact ⟨⟨v, rfl, p1⟩, l⟩) fun _ _ f => f
noncomputable abbrev Two (P Q : Pr) : (Addr → Prop) → List Value → Heap → Prop := fun V vs h => ∃ v u, vs = [v, u] ∧ P V v h ∧ Q V u h
theorem evl_two {e e' : Expr} {P Q : Pr} (a : Ev κ n env h e P) (p : Per κ P) (b : Ev κ n env h e' Q) (q : Per κ Q)
    (he : ∀ pos, backTo pos (starEach [e, e'] env) = (false, eval e env) :: backTo pos (starEach [e'] env) := by intro _; rfl) (he' : ∀ pos, backTo pos (starEach [e'] env) = (false, eval e' env) :: backTo pos (starEach [] env) := by intro _; rfl) : EvL κ n env h [e, e'] (Two P Q) := fun pos A s V rm y =>
  wpAny_mono (evl_cons a p (evl_one b q he') he pos A s V rm y) (fun _ _ z => by obtain ⟨⟨v, vs, rfl, p1, u, rfl, p2⟩, l⟩ := z; exact ⟨⟨v, u, rfl, p1, p2⟩, l⟩) fun _ _ f => f
noncomputable abbrev Three (P Q R : Pr) : (Addr → Prop) → List Value → Heap → Prop := fun V vs h => ∃ v u t, vs = [v, u, t] ∧ P V v h ∧ Q V u h ∧ R V t h
theorem fun_len_str {x : Str} (hz : x.length ≤ sizeLine) : Fun κ n h (.builtin "len") (One (Is (.str x))) (Is (.int x.length)) := by
  rintro A s V vs rm y ⟨v, rfl, p⟩
  cases p
  have hz' : x.length ≤ 16777216 := by simpa [sizeLine] using hz
  exact P.len_str (by omega) ⟨.int _ _, .toks⟩
theorem fun_len_list {ds : List Da} (hz : ds.length ≤ sizeLine) : Fun κ n h (.builtin "len") (One (Is (.list ds))) (Is (.int ds.length)) := by
  rintro A s V vs rm y ⟨v, rfl, p⟩
  cases p with
  | list va pl r =>
    have hl := r.length
    rw [Array.length_toList] at hl
    have hz' : ds.length ≤ 16777216 := by simpa [sizeLine] using hz
    rw [← hl]
    exact len_list pl.isList (by omega) ⟨.int _ _, .toks⟩
theorem fun_chr {i : Int} (h0 : 0 ≤ i) (h1 : i ≤ 1114111) : Fun κ n h (.builtin "chr") (One (Is (.int i))) (Is (.str ⟨#[i.toNat]⟩)) := by
  rintro A s V vs rm y ⟨v, rfl, p⟩
  cases p
  exact chr_of_range h0 h1 ⟨.str _ _, .toks⟩

/-! ## methods -/
theorem ev_meth1 {o e : Expr} {name : Str} {apos pos : Pos} {T id : String} {P1 P2 P : Pr} (a : Ev κ n env h o P1) (p1 : Per κ P1) (b : Ev κ n env h e P2) (pa : PlainAttrs T) (sl : Slot T name id) (ty : typeOf (.builtin id) = pure (.type "method_descriptor"))
    (tp : ∀ V v (s : Shared), P1 V v s.heap → s.TypeIs v T ∧ ∀ a, v = .ref a → ∃ ob, s.heap.get? a = some ob ∧ ob.dict = none)
    (c : ∀ A s V v u, Rm n A → At κ h V s → P1 V v s.heap → P2 V u s.heap → Gv κ V A (call (.builtin id) [v, u]) s P)
    (hb : attributeBase o name env (eval o env) = eval o env := by rfl) (hln : (apos.endLine == pos.line) = true := by rfl) (he : backTo pos (starEach [e] env) = [(false, eval e env)] := by rfl) :
    Ev κ n env h (.Call (.Attribute o name apos) [e] [] pos) P := by
  intro A s V rm y
  refine wpAny_Call_method1_late hb hln he (a.go rm y fun v s1 pv l1 y1 => ?_)
  obtain ⟨t1, t2⟩ := tp V v s1 pv
  refine ⟨T, id, pa, sl, ty, t1, t2, callWith_builtin (by rfl) (evalArgs_plain (spliced_cons (b.go rm y1 fun u s2 pu l2 y2 => spliced_nil ?_)))⟩
  exact (c A s2 V v u rm y2 (p1 _ _ _ _ l2.ext pv) pu).after (l1.trans l2)
theorem str_tp {x : Str} : ∀ V v (s : Shared), Is (.str x) V v s.heap → s.TypeIs v "str" ∧ ∀ a, v = .ref a → ∃ ob, s.heap.get? a = some ob ∧ ob.dict = none := fun _ _ _ p => by
  cases p
  exact ⟨typeIs_str _ _ _, fun _ e => by cases e⟩
theorem strValues_of {h : Heap} {vs : List Value} {xs : List Str} (d : Dns V h vs (xs.map Da.str)) : ∃ l : List (Str × Tok), strValues l = vs ∧ l.map (·.1) = xs :=
  Dns.mapInd Da.str (P := fun vs xs => ∃ l : List (Str × Tok), strValues l = vs ∧ l.map (·.1) = xs) ⟨[], rfl, rfl⟩ (fun v vs x xs p ih => ih.elim fun l q => by
    cases p with | str _ t =>
    exact ⟨(x, t) :: l, congrArg (Value.str x t :: ·) q.1, congrArg (x :: ·) q.2⟩) d
theorem ev_join {o e : Expr} {apos pos : Pos} {x : Str} {xs : List Str} (a : Ev κ n env h o (Is (.str x))) (b : Ev κ n env h e (Is (.list (xs.map .str)))) (ok : JoinOk x xs = true) (hb : attributeBase o "join" env (eval o env) = eval o env := by rfl) (hln : (apos.endLine == pos.line) = true := by rfl) (he : backTo pos (starEach [e] env) = [(false, eval e env)] := by rfl) :
    Ev κ n env h (.Call (.Attribute o "join" apos) [e] [] pos) (Is (.str (Txt.join x xs))) :=
  ev_meth1 a Is.per b F.plainAttrs_str F.slot_str_join F.type_str_join str_tp (fun _ _ _ _ _ _ _ p q => by
    cases p
    cases q with
    | list va pl r =>
      obtain ⟨l, e1, e2⟩ := strValues_of r
      exact SC.join (l := l) (by rw [e1]; exact pl.isList) e2 ok fun _ _ => ⟨.str _ _, .toks⟩) hb hln he
end Mine
end
section
open PySem PySem.W PySem.W.X PyProof.Rows PySem.Calls
set_option Elab.async false
set_option maxRecDepth 100000
namespace Mine
variable {κ : Cx} {n : Nat} {env : Env} {h : Heap} {A : Around} {s s₀ : Shared} {V : Addr → Prop} {ρ : Str → Option Value}

/-! ## frames whose names hold data -/
noncomputable abbrev Del := List (Str × Da)
noncomputable def Holds (V : Addr → Prop) (h : Heap) (ρ : Str → Option Value) (δ : Del) : Prop := ∀ x d, δ.lookup x = some d → ∃ v, ρ x = some v ∧ Dn V h v d
noncomputable def Sub : Del → Del → Prop
  | [], _ => True
  | (x, d) :: r, δ => δ.lookup x = some d ∧ Sub r δ
theorem Sub.look : ∀ {δ' δ : Del}, Sub δ' δ → ∀ x d, δ'.lookup x = some d → δ.lookup x = some d
  | [], _, _, _, _, e => by simp at e
  | (y, d') :: r, δ, k, x, d, e => by
    obtain ⟨k1, k2⟩ := k
    rw [List.lookup_cons] at e
    by_cases hx : (x == y) = true
    · rw [hx] at e
      obtain rfl : x = y := by simpa using hx
      cases e; exact k1
    · simp only [hx] at e
      exact Sub.look k2 x d e
structure Fd (κ : Cx) (h : Heap) (env : Env) (δ : Del) : Prop where
  ex : ∃ ρ, Fm κ h env ρ ∧ Holds Tr h ρ δ
theorem Fd.ext {δ : Del} {h' : Heap} (F : Fd κ h env δ) (k : Ext κ.T h h') : Fd κ h' env δ :=
  by obtain ⟨ρ, a, b⟩ := F.ex; exact ⟨ρ, a.ext k, fun x d e => by obtain ⟨v, p, q⟩ := b x d e; exact ⟨v, p, q.kv (Ext.kv k)⟩⟩
theorem Fd.base {δ : Del} (F : Fd κ h env δ) : Base κ h := by obtain ⟨_, a, _⟩ := F.ex; exact a.base
noncomputable def liesB (env : Env) (x : Str) : Bool := match env.kindOf x with
  | some .local => true
  | some .cell => (env.cells.lookup x).isSome
  | some .free => (env.cells.lookup x).isSome && !(x == ("__classdict__" : Str))
  | _ => false
theorem lies_of {x : Str} (k : liesB env x = true) : Lies env x := by
  unfold liesB at k
  unfold Lies
  cases q : env.kindOf x with
  | none => rw [q] at k; cases k
  | some z =>
    rw [q] at k
    cases z <;> simp at k ⊢
    · exact k
    · exact k
theorem ev_loc {δ : Del} {x : Str} {pos : Pos} {d : Da} (F : Fd κ h env δ) (hx : δ.lookup x = some d) (hl : liesB env x = true := by rfl) (hd : (x == ("__debug__" : Str)) = false := by decide) : Ev κ n env h (.Name x pos) (Is d) := by
  obtain ⟨ρ, a, b⟩ := F.ex
  obtain ⟨v, p, q⟩ := b x d hx
  exact ev_var (vr_of a p (lies_of hl)) q hd

/-! ## within a call -/
structure Fr (κ : Cx) (h : Heap) (V : Addr → Prop) (s₀ : Shared) (env : Env) (δ : Del) (s : Shared) : Prop where
  ex : ∃ ρ, In κ h V s₀ env ρ s ∧ Holds V s.heap ρ δ
theorem Fr.fd {δ : Del} (F : Fr κ h V s₀ env δ s) : Fd κ (cutH V s.heap) env δ :=
  by obtain ⟨ρ, a, b⟩ := F.ex; exact ⟨ρ, a.fm, fun x d e => by obtain ⟨v, p, q⟩ := b x d e; exact ⟨v, p, q.cut.at fun _ _ _ => trivial⟩⟩
theorem Fr.ext {δ : Del} (F : Fr κ h V s₀ env δ s) : Ext κ.T h (cutH V s.heap) := by obtain ⟨_, a, _⟩ := F.ex; exact a.ext
theorem Fr.lt {δ : Del} (F : Fr κ h V s₀ env δ s) : Lt κ.T NoX s₀ s := by obtain ⟨_, a, _⟩ := F.ex; exact a.l
theorem Fr.weak {δ δ' : Del} (F : Fr κ h V s₀ env δ s) (k : Sub δ' δ) : Fr κ h V s₀ env δ' s := by obtain ⟨ρ, a, b⟩ := F.ex; exact ⟨ρ, a, fun x d e => b x d (k.look x d e)⟩
theorem Fr.at {δ : Del} (F : Fr κ h V s₀ env δ s) : At κ (cutH V s.heap) V s := by obtain ⟨_, a, _⟩ := F.ex; exact a.at
theorem Fr.on {δ : Del} {s' : Shared} (F : Fr κ h V s₀ env δ s) (l : Lt κ.T NoX s s') (t : 0 < s'.toks) : Fr κ h V s₀ env δ s' :=
  by obtain ⟨ρ, a, b⟩ := F.ex; exact ⟨ρ, a.on l t, fun x d e => by obtain ⟨v, p, q⟩ := b x d e; exact ⟨v, p, q.kv (Ext.kv l.ext)⟩⟩
noncomputable def Loc (env : Env) : Addr → Prop := fun b => b = env.locals ∨ ∃ y, env.cells.lookup y = some b
noncomputable def Ex (κ : Cx) (n : Nat) (h : Heap) (V : Addr → Prop) (s₀ : Shared) (env : Env) (δ : Del) (body : List Stmt) (Q : Flow → Shared → Prop) : Prop :=
  ∀ A s, Rm n A → Fr κ h V s₀ env δ s → wpAny κ.M A (execs body env) (fun fl s' => Q fl s' ∧ ExtB κ.T (Loc env) s.heap s'.heap) (fun _ _ => False) s
variable {δ δ' : Del} {Q : Flow → Shared → Prop} {rest : List Stmt}
theorem ex_weak {body : List Stmt} (k : Sub δ' δ) (x : Ex κ n h V s₀ env δ' body Q) : Ex κ n h V s₀ env δ body Q := fun A s rm F => x A s rm (F.weak k)
theorem ex_nil (k : ∀ s, Fr κ h V s₀ env δ s → Q .next s) : Ex κ n h V s₀ env δ [] Q := fun _ s _ F => wpAny_execs_nil ⟨k s F, .refl _⟩
theorem ex_assign' {x : Str} {p pos : Pos} {e : Expr} {d : Da} (a : ∀ h', Ext κ.T h h' → Fd κ h' env δ → Ev κ n env h' e (Is d)) (k : Ex κ n h V s₀ env ((x, d) :: δ) rest Q)
    (hl : (env.kindOf x == some .local || (env.kindOf x == some .cell && (env.cells.lookup x).isSome)) = true := by rfl) (hsw : swapsWith e (some (.Name x p)) pos.line env = pure false := by rfl) : Ex κ n h V s₀ env δ (.Assign [.Name x p] e pos :: rest) Q := by
  intro A s rm F
  have hl' : env.kindOf x = some .local ∨ (env.kindOf x = some .cell ∧ (env.cells.lookup x).isSome = true) := by simpa using hl
  have ev := a _ F.ext F.fd
  obtain ⟨ρ, G, H⟩ := F.ex
  refine wpAny_execs_cons (wpAny_Assign_Name (G.go ev rm fun v s1 pv l1 F1 => F1.store hl' fun s2 F2 k2 e2 => ?_) hsw)
  have e12 : ExtB κ.T (Loc env) s.heap s2.heap := (l1.toB (X := Loc env)).ext.trans e2
  refine wpAny_mono (k A s2 rm ⟨_, F2, fun y u e => ?_⟩) (fun fl s' q => ⟨q.1, e12.trans q.2⟩) fun _ _ f => f
  rw [List.lookup_cons] at e
  unfold put
  by_cases hy : (y == x) = true
  · rw [hy] at e
    rw [if_pos (by simpa using hy)]
    cases e
    exact ⟨v, rfl, pv.kv k2⟩
  · simp only [hy] at e
    rw [if_neg (by simpa using hy)]
    obtain ⟨w, p1, p2⟩ := H y u e
    exact ⟨w, p1, (p2.kv (Ext.kv l1.ext)).kv k2⟩
theorem ex_ret' {e : Expr} {pos : Pos} {P : Pr} (a : ∀ h', Ext κ.T h h' → Fd κ h' env δ → Ev κ n env h' e P) (k : ∀ v s', P V v s'.heap → Lt κ.T NoX s₀ s' → Q (.ret v) s') : Ex κ n h V s₀ env δ (.Return (some e) pos :: rest) Q := by
  intro A s rm F
  have ev := a _ F.ext F.fd
  refine wpAny_execs_cons (wpAny_Return_some (ev.go rm F.at fun v s1 pv l1 y1 => ⟨k v s1 pv (F.lt.trans l1), (l1.toB (X := Loc env)).ext⟩))
noncomputable def nx (N : Shared → Prop) (Q : Flow → Shared → Prop) : Flow → Shared → Prop := fun fl s => match fl with
  | .next => N s
  | f => Q f s
theorem ex_if' {c : Expr} {b : Bool} {body orelse : List Stmt} {pos : Pos} (a : ∀ h', Ext κ.T h h' → Fd κ h' env δ → EvB κ n env h' c b)
    (k : Ex κ n h V s₀ env δ (if b then body else orelse) (nx (Fr κ h V s₀ env δ') Q)) (k2 : Ex κ n h V s₀ env δ' rest Q) : Ex κ n h V s₀ env δ (.If c body orelse pos :: rest) Q := by
  intro A s rm F
  have ev := a _ F.ext F.fd
  refine wpAny_execs_cons (wpAny_If (ev.go rm F.at fun s1 l1 y1 => ?_))
  have z := k A s1 rm (F.on l1 y1.tk)
  have fin : ∀ (fl : Flow) s', (nx (Fr κ h V s₀ env δ') Q fl s' ∧ ExtB κ.T (Loc env) s1.heap s'.heap) → ExtB κ.T (Loc env) s.heap s'.heap := fun fl s' q => (l1.toB (X := Loc env)).ext.trans q.2
  cases b
  · rw [if_neg (by simp)] at z ⊢
    refine wpAny_mono z (fun fl s' q => ?_) fun _ _ f => f
    have e2 := fin fl s' q
    cases fl with
    | next => exact wpAny_mono (k2 A s' rm q.1) (fun fl s'' q' => ⟨q'.1, e2.trans q'.2⟩) fun _ _ f => f
    | cont => exact ⟨q.1, e2⟩
    | brk => exact ⟨q.1, e2⟩
    | ret v => exact ⟨q.1, e2⟩
  · rw [if_pos rfl] at z ⊢
    refine wpAny_mono z (fun fl s' q => ?_) fun _ _ f => f
    have e2 := fin fl s' q
    cases fl with
    | next => exact wpAny_mono (k2 A s' rm q.1) (fun fl s'' q' => ⟨q'.1, e2.trans q'.2⟩) fun _ _ f => f
    | cont => exact ⟨q.1, e2⟩
    | brk => exact ⟨q.1, e2⟩
    | ret v => exact ⟨q.1, e2⟩
/-- an if that does nothing, and goes on -/
theorem ex_skip {c : Expr} {body : List Stmt} {pos : Pos} (a : ∀ h', Ext κ.T h h' → Fd κ h' env δ → EvB κ n env h' c false) (k2 : Ex κ n h V s₀ env δ rest Q) : Ex κ n h V s₀ env δ (.If c body [] pos :: rest) Q :=
  ex_if' (δ' := δ) a (ex_nil fun _ F => F) k2
/-- an if taken to its end -/
theorem ex_take {c : Expr} {body : List Stmt} {orelse : List Stmt} {pos : Pos} (a : ∀ h', Ext κ.T h h' → Fd κ h' env δ → EvB κ n env h' c true) (k : Ex κ n h V s₀ env δ body (nx (fun _ => False) Q)) : Ex κ n h V s₀ env δ (.If c body orelse pos :: rest) Q := by
  intro A s rm F
  have ev := a _ F.ext F.fd
  refine wpAny_execs_cons (wpAny_If (ev.go rm F.at fun s1 l1 y1 => ?_))
  rw [if_pos rfl]
  refine wpAny_mono (k A s1 rm (F.on l1 y1.tk)) (fun fl s' q => ?_) fun _ _ f => f
  have e2 : ExtB κ.T (Loc env) s.heap s'.heap := (l1.toB (X := Loc env)).ext.trans q.2
  cases fl with
  | next => exact q.1.elim
  | cont => exact ⟨q.1, e2⟩
  | brk => exact ⟨q.1, e2⟩
  | ret v => exact ⟨q.1, e2⟩
theorem ex_break {pos : Pos} (k : ∀ s, Fr κ h V s₀ env δ s → Q .brk s) : Ex κ n h V s₀ env δ (.Break pos :: rest) Q := fun A s _ F => wpAny_execs_cons (wpAny_Break ⟨k s F, .refl _⟩)

/-! ## while -/
noncomputable def lp {σ : Type} (J : σ → Prop) (N : σ → Shared → Prop) (m : σ → Nat) (a : σ) (B : Shared → Prop) (Q : Flow → Shared → Prop) : Flow → Shared → Prop := fun fl s => match fl with
  | .next | .cont => ∃ a', J a' ∧ m a' < m a ∧ N a' s
  | .brk => B s
  | .ret v => Q (.ret v) s
theorem ex_while {σ : Type} {test : Expr} {body : List Stmt} {pos : Pos} (δf : σ → Del) (m : σ → Nat) (tst : σ → Bool) (J : σ → Prop) (a₀ : σ) (j₀ : J a₀)
    (hc : ∀ a, J a → ∀ h', Ext κ.T h h' → Fd κ h' env (δf a) → EvB κ n env h' test (tst a))
    (hb : ∀ a, J a → tst a = true → Ex κ n h V s₀ env (δf a) body (lp J (fun a' => Fr κ h V s₀ env (δf a')) m a (Fr κ h V s₀ env δ') Q))
    (ho : ∀ a, J a → tst a = false → Sub δ' (δf a)) (h0 : Sub (δf a₀) δ) (k : Ex κ n h V s₀ env δ' rest Q) : Ex κ n h V s₀ env δ (.While test body [] pos :: rest) Q := by
  intro A s rm F
  refine wpAny_execs_cons (wpAny_While (codeAny_whileLoop (fun k s' => ∃ a, k = m a ∧ J a ∧ Fr κ h V s₀ env (δf a) s' ∧ ExtB κ.T (Loc env) s.heap s'.heap) ?_ (m a₀) ⟨a₀, rfl, j₀, F.weak h0, .refl _⟩))
  rintro j s1 ⟨a, rfl, ja, F1, e1⟩
  refine (hc a ja _ F1.ext F1.fd).go rm F1.at fun s2 l2 y2 => ?_
  have e2 : ExtB κ.T (Loc env) s.heap s2.heap := e1.trans (l2.toB (X := Loc env)).ext
  cases ht : tst a with
  | true =>
    rw [if_pos rfl]
    refine wpAny_mono (hb a ja ht A s2 rm (F1.on l2 y2.tk)) (fun fl s3 q => ?_) fun _ _ f => f.elim
    have e3 := e2.trans q.2
    cases fl with
    | next => obtain ⟨a', ja', lt, F'⟩ := q.1; exact ⟨m a', lt, a', rfl, ja', F', e3⟩
    | cont => obtain ⟨a', ja', lt, F'⟩ := q.1; exact ⟨m a', lt, a', rfl, ja', F', e3⟩
    | brk => exact wpAny_mono (k A s3 rm q.1) (fun fl s4 q' => ⟨q'.1, e3.trans q'.2⟩) fun _ _ f => f
    | ret v => exact ⟨q.1, e3⟩
  | false =>
    rw [if_neg (by simp)]
    refine wpAny_execs_nil ?_
    exact wpAny_mono (k A s2 rm ((F1.on l2 y2.tk).weak (ho a ja ht))) (fun fl s4 q' => ⟨q'.1, e2.trans q'.2⟩) fun _ _ f => f
end Mine
end
section
open PySem PySem.W PySem.W.X PyProof.Rows PySem.Calls
set_option Elab.async false
set_option maxRecDepth 100000
namespace Mine
variable {κ : Cx} {n : Nat} {env : Env} {h : Heap} {A : Around} {s s₀ : Shared} {V : Addr → Prop} {ρ : Str → Option Value} {δ δ' : Del} {Q : Flow → Shared → Prop} {rest : List Stmt}

/-! ## a def of the text, called with data -/
/-- the end of a body -/
noncomputable def rt (κ : Cx) (V : Addr → Prop) (s₀ : Shared) (P : Pr) : Flow → Shared → Prop := fun fl s' => (∃ v, fl = .ret v ∧ P V v s'.heap) ∧ Lt κ.T NoX s₀ s'
theorem holds_zip {h : Heap} {xs : List Str} {vs : List Value} {ds : List Da} (d : Dns V h vs ds) : Holds V h (fun x => (xs.zip vs).lookup x) (xs.zip ds) :=
  Dns.ind (P := fun vs ds => ∀ xs : List Str, Holds V h (fun x => (xs.zip vs).lookup x) (xs.zip ds)) (fun xs x d e => by rw [List.zip_nil_right] at e; cases e) (fun v vs d ds a _ ih xs x u e => by
    cases xs with
    | nil => cases e
    | cons y xs =>
      show ∃ w, ((y, v) :: xs.zip vs).lookup x = some w ∧ _
      rw [List.zip_cons_cons, List.lookup_cons] at e
      rw [List.lookup_cons]
      by_cases hy : (x == y) = true
      · rw [hy] at e ⊢
        cases e
        exact ⟨v, rfl, a⟩
      · simp only [hy] at e ⊢
        exact ih xs x u e) d xs
theorem Holds.kv {h h' : Heap} (k : Kv V h h') (x : Holds V h ρ δ) : Holds V h' ρ δ := fun y d e => by obtain ⟨v, p, q⟩ := x y d e; exact ⟨v, p, q.kv k⟩
theorem fun_data {f : Addr} {fd : FuncData} {body : List Stmt} {xs : List Str} {ds : List Da} {P : Pr} (b : Base κ h) (fa : FnAt h f fd) (hb : fd.body = .stmts body) (hclo : fd.closure = []) (hg : fd.globals = mainGlobals) (hbl : fd.builtins = builtinsNs)
    (hco : fd.scope.isCoroutine = false) (hge : fd.scope.isGenerator = false) (hk : fd.scope.kind = .function)
    (hbind : ∀ vs : List Value, vs.length = ds.length → bindArgs fd ⟨vs, []⟩ = pure (xs.zip vs))
    (hnd : ∀ vs : List Value, vs.length = ds.length → ∀ x, (xs.zip vs).reverse.lookup x = (xs.zip vs).lookup x)
    (hkind : ∀ x ∈ xs, ∀ L, (fd.scope.names.lookup x == some .local || (fd.scope.names.lookup x == some .cell && ((cellsFrom L fd.scope.names []).lookup x).isSome)) = true)
    (hbody : ∀ V s₀, At κ h V s₀ → Ex κ n h V s₀ (callEnvC fd s₀.heap.objs.size f) (xs.zip ds) body (rt κ V s₀ P)) :
    Fun κ (n + 1) h (.ref f) (Iss ds) P := by
  refine fun_def b fa hb hclo hg hbl hco hge hk fun V s₀ vs y pa => ⟨_, hbind vs pa.length, fun x hx => ?_, fun A s rm F k => ?_⟩
  · have := hkind x.1 (List.of_mem_zip hx).1 (s₀.heap.objs.size + 1)
    simpa using this
  · rw [show (fun x => (xs.zip vs).reverse.lookup x) = fun x => (xs.zip vs).lookup x from funext (hnd vs pa.length)] at F
    refine wpAny_mono (hbody V s₀ y A s rm ⟨_, F, (holds_zip pa).kv k⟩) (fun fl s' q => q.1) fun _ _ f => f
theorem len2 {l : List Value} (h : l.length = 2) : ∃ a b, l = [a, b] := by
  cases l with
  | nil => cases h
  | cons a r =>
    obtain ⟨b, rfl⟩ := List.length_eq_one_iff.mp (Nat.succ.inj h)
    exact ⟨a, b, rfl⟩
theorem len3 {l : List Value} (h : l.length = 3) : ∃ a b c, l = [a, b, c] := by
  cases l with
  | nil => cases h
  | cons a r =>
    obtain ⟨b, c, rfl⟩ := len2 (Nat.succ.inj h)
    exact ⟨a, b, c, rfl⟩
theorem nd1 {x : Str} {d : Da} : ∀ vs : List Value, vs.length = [d].length → ∀ y, ([x].zip vs).reverse.lookup y = ([x].zip vs).lookup y
  | vs, hv, y => by
    obtain ⟨v, rfl⟩ := List.length_eq_one_iff.mp hv
    rfl
theorem nd2 {x x' : Str} {d d' : Da} (hx : (x == x') = false) : ∀ vs : List Value, vs.length = [d, d'].length → ∀ y, ([x, x'].zip vs).reverse.lookup y = ([x, x'].zip vs).lookup y
  | vs, hv, y => by
    obtain ⟨v, v', rfl⟩ := len2 hv
    have hx' : x ≠ x' := by simpa using hx
    show List.lookup y [(x', v'), (x, v)] = List.lookup y [(x, v), (x', v')]
    simp only [List.lookup_cons]
    cases h1 : (y == x) <;> cases h2 : (y == x') <;> first | rfl | skip
    exact absurd ((by simpa using h1 : y = x).symm.trans (by simpa using h2 : y = x')) hx'
theorem ret_ok {P : Pr} {v : Value} {s' : Shared} (p : P V v s'.heap) (l : Lt κ.T NoX s₀ s') : rt κ V s₀ P (.ret v) s' := ⟨⟨v, rfl, p⟩, l⟩
end Mine
end
section
open PySem PySem.W PySem.W.X PyProof.Rows PySem.Calls
set_option Elab.async false
set_option maxRecDepth 100000
namespace Mine
variable {κ : Cx} {n : Nat} {env : Env} {h : Heap} {A : Around} {s s₀ : Shared} {V : Addr → Prop} {ρ : Str → Option Value} {δ δ' : Del} {Q : Flow → Shared → Prop} {rest : List Stmt}

/-! ## names of the world -/
structure Blt (κ : Cx) (x : Str) (v : Value) : Prop where
  g : κ.mg x = none
  b : κ.mb x = some v
theorem Fd.blt {x : Str} {v : Value} (F : Fd κ h env δ) (b : Blt κ x v) (hk : env.kindOf x = some .globalImplicit := by rfl) : Vr κ h env x v := by obtain ⟨_, a, _⟩ := F.ex; exact vr_blt a hk b.g b.b
theorem Fd.glob {x : Str} {v : Value} (F : Fd κ h env δ) (b : κ.mg x = some v) (hk : env.kindOf x = some .globalImplicit := by rfl) : Vr κ h env x v := by obtain ⟨_, a, _⟩ := F.ex; exact vr_glob a hk b

/-! ## parse257's plain form -/
noncomputable def told : List Nat → List Nat
  | [] => []
  | c :: r => if c = 34 then (match r with
    | 34 :: r' => 34 :: told r'
    | _ => []) else c :: told r
noncomputable def tx (l : List Nat) : Str := ⟨l.toArray⟩
theorem tx_length (l : List Nat) : (tx l).length = l.length := by simp [tx, Str.length]
theorem tx_add (a b : List Nat) : tx a ++ tx b = tx (a ++ b) := by
  show (⟨a.toArray ++ b.toArray⟩ : Str) = _
  simp [tx]
theorem tx_get (l : List Nat) (i : Nat) : (tx l).cps[i]? = l[i]? := by simp [tx]
theorem tx_inj {a b : List Nat} : tx a = tx b ↔ a = b := by simp [tx]
theorem tx_beq {a b : List Nat} : (tx a == tx b) = (a == b) := by
  by_cases e : a = b
  · subst e; simp
  · rw [beq_false_of_ne e, beq_false_of_ne (fun q => e (tx_inj.mp q))]
end Mine
end
section
open PySem PySem.W PySem.W.X PyProof.Rows PySem.Calls
set_option Elab.async false
set_option maxRecDepth 100000
namespace Mine
theorem range_pick {α : Type} : ∀ (c : Nat) (l : List α) (i : Nat), i + c ≤ l.length → ((List.range c).map (fun k : Nat => i + k)).filterMap (l[·]?) = (l.drop i).take c
  | 0, l, i, h => by simp
  | c + 1, l, i, h => by
    rw [List.range_succ, List.map_append, List.filterMap_append, range_pick c l i (Nat.le_of_succ_le h)]
    have hi : i + c < l.length := h
    simp only [List.map_cons, List.map_nil, List.filterMap_cons, List.filterMap_nil, List.getElem?_eq_getElem hi]
    rw [List.take_succ, List.getElem?_drop, List.getElem?_eq_getElem hi]
    rfl
theorem sliceRange_one (a b : Nat) : sliceRange (a : Int) (b : Int) 1 = (List.range (b - a)).map (fun k : Nat => a + k) := by
  unfold sliceRange
  simp only [show (1 : Int) > 0 by decide, if_true, Int.ediv_one]
  have e : (if (a : Int) < (b : Int) then ((b : Int) - a + 1 - 1) else 0).toNat = b - a := by
    split
    · rw [Int.add_sub_cancel]; exact Int.toNat_sub b a
    · rename_i h
      exact (Nat.sub_eq_zero_of_le (Int.ofNat_le.mp (Int.not_lt.mp h))).symm
  rw [e]
  refine List.map_congr_left fun k _ => ?_
  omega
theorem slice_core {l : List Nat} {lo hi : Option Int} {a b : Nat} (hb : b ≤ l.length) (hab : a ≤ b) (e : Builtin.Str.strSliceIndices lo hi 1 l.length = (List.range (b - a)).map (fun k : Nat => a + k)) : Txt.slice (tx l) lo hi = tx ((l.take b).drop a) := by
  have p : ((List.range (b - a)).map (fun k : Nat => a + k)).filterMap (l[·]?) = (l.take b).drop a := by
    rw [range_pick _ _ _ (by omega), List.drop_take]
  have q : (fun i => (tx l).cps[i]?) = fun i => l[i]? := funext fun i => tx_get l i
  unfold Txt.slice
  rw [tx_length, e, q, p]
  by_cases h : (((1 : Int) == 1 && ((List.range (b - a)).map (fun k : Nat => a + k)).length == l.length) = true)
  · rw [if_pos h]
    simp at h
    have ha : a = 0 := by omega
    have hb' : b = l.length := by omega
    rw [ha, hb', List.drop_zero, List.take_length]
  · rw [if_neg h]; rfl
theorem clamp_nat (i n : Nat) : max (0 : Int) (min (i : Int) (n : Int)) = ((min i n : Nat) : Int) := by omega
theorem slice_to (l : List Nat) (j : Nat) : Txt.slice (tx l) none (some (j : Int)) = tx (l.take j) := by
  have e : Builtin.Str.strSliceIndices none (some (j : Int)) 1 l.length = (List.range (min j l.length - 0)).map (fun k : Nat => 0 + k) := by
    rw [← sliceRange_one]
    unfold Builtin.Str.strSliceIndices
    have : ¬ ((j : Int) < 0) := Int.not_lt.mpr (Int.natCast_nonneg j)
    simp only [show (1 : Int) > 0 by decide, if_true, if_neg this]
    congr 1
    exact clamp_nat _ _
  rw [slice_core (Nat.min_le_right _ _) (Nat.zero_le _) e, List.drop_zero]
  congr 1
  by_cases h : j ≤ l.length
  · rw [Nat.min_eq_left h]
  · rw [Nat.min_eq_right (Nat.le_of_not_le h), List.take_length, List.take_of_length_le (Nat.le_of_not_le h)]
theorem slice_mid (l : List Nat) (i j : Nat) (hij : i ≤ j) (hj : j ≤ l.length) : Txt.slice (tx l) (some (i : Int)) (some (j : Int)) = tx ((l.take j).drop i) := by
  have e : Builtin.Str.strSliceIndices (some (i : Int)) (some (j : Int)) 1 l.length = (List.range (j - i)).map (fun k : Nat => i + k) := by
    rw [← sliceRange_one]
    unfold Builtin.Str.strSliceIndices
    have h1 : ¬ ((i : Int) < 0) := Int.not_lt.mpr (Int.natCast_nonneg i)
    have h2 : ¬ ((j : Int) < 0) := Int.not_lt.mpr (Int.natCast_nonneg j)
    simp only [show (1 : Int) > 0 by decide, if_true, if_neg h1, if_neg h2]
    congr 1
    · exact (clamp_nat i _).trans (congrArg Int.ofNat (Nat.min_eq_left (Nat.le_trans hij hj)))
    · exact (clamp_nat j _).trans (congrArg Int.ofNat (Nat.min_eq_left hj))
  exact slice_core hj hij e
end Mine
end
section
open PySem PySem.W PySem.W.X PyProof.Rows PySem.Calls
set_option Elab.async false
set_option maxRecDepth 100000
namespace Mine
/-! ## one set of signs, sought from the start -/
structure SetCode (code : Array Nat) (uns : Nat → Bool) : Prop where
  sz : code.size = 34
  w0 : code.getD 0 0 = 14
  w1 : code.getD 1 0 = 17
  w2 : code.getD 2 0 = 4
  w3 : code.getD 3 0 = 1
  w18 : code.getD 18 0 = 13
  w19 : code.getD 19 0 = 14
  w33 : code.getD 33 0 = 1
  first : ∀ c seen, ∃ seen', Sre.inSet code c code.size 5 true seen = .ok (uns c, seen')
  again : ∀ c seen, ∃ seen', Sre.inSet code c code.size 20 true seen = .ok (uns c, seen')
theorem admitted_out {code : Array Nat} {uns : Nat → Bool} (H : SetCode code uns) (m : Sre.M) (hm : m.code = code) : ∀ (fuel s : Nat) (seen : Sre.Seen), m.lim ≤ s + fuel → 
    ∃ r seen', Sre.M.admitted m fuel s seen = .ok (r, seen') ∧ (match r with
      | none => ∀ i, s ≤ i → i < m.lim → uns (m.text.getD i 0) = false
      | some j => j < m.lim ∧ s ≤ j ∧ uns (m.text.getD j 0) = true) := by
  intro fuel
  induction fuel with
  | zero => exact fun s seen h => ⟨none, seen, rfl, fun i h1 h2 => absurd (Nat.lt_of_lt_of_le h2 (Nat.le_trans h h1)) (Nat.lt_irrefl _)⟩
  | succ fuel IH =>
    intro s seen h
    rw [Sre.M.admitted]
    by_cases hs : s ≥ m.lim
    · rw [if_pos hs]
      exact ⟨none, seen, rfl, fun i h1 h2 => absurd (Nat.lt_of_lt_of_le h2 (Nat.le_trans hs h1)) (Nat.lt_irrefl _)⟩
    · rw [if_neg hs, hm]
      obtain ⟨seen', e⟩ := H.first (m.text.getD s 0) seen
      rw [e]
      cases hu : uns (m.text.getD s 0) with
      | true => exact ⟨some s, seen', rfl, Nat.lt_of_not_le hs, Nat.le_refl _, hu⟩
      | false =>
        obtain ⟨r, seen'', e', hr⟩ := IH (s + 1) seen' (Nat.le_trans h (Nat.le_of_eq (Nat.succ_add_eq_add_succ s fuel).symm))
        refine ⟨r, seen'', e', ?_⟩
        cases r with
        | none =>
          intro i h1 h2
          by_cases hi : i = s
          · rw [hi]; exact hu
          · exact hr i (Nat.lt_of_le_of_ne h1 fun q => hi q.symm) h2
        | some j => exact ⟨hr.1, Nat.le_of_succ_le hr.2.1, hr.2.2⟩
theorem runFor_go {m : Sre.M} {k : Nat} (h : m.outcome = none) : Sre.M.runFor (k + 1) m = Sre.M.runFor k m.step := by
  rw [Sre.M.runFor, h]; rfl
theorem step_exec {m : Sre.M} (h1 : m.outcome = none) (h2 : m.answer = none) (h3 : m.pc < m.code.size) : m.step = m.exec := by
  unfold Sre.M.step
  rw [h1, h2]
  simp only [Option.isSome_none, Bool.false_eq_true, if_false, if_pos h3]
theorem accepts_in {code : Array Nat} {c : Nat} {seen seen2 : Sre.Seen} {b : Bool} (h : code.getD 18 0 = 13) (e : Sre.inSet code c code.size 20 true seen = .ok (b, seen2)) : Sre.accepts code 18 c seen = .ok (b, seen2) := by
  unfold Sre.accepts
  rw [h]
  exact e
theorem exec_in {m : Sre.M} {seen2 : Sre.Seen} (h : m.code.getD 18 0 = 13) (hw : m.code.getD 19 0 = 14) (hpc : m.pc = 18) (hp : m.pos < m.lim) (e : Sre.inSet m.code (m.text.getD m.pos 0) m.code.size 20 true (m.seen.add 13) = .ok (true, seen2)) :
    m.exec = { m with seen := seen2, pc := 33, pos := m.pos + 1 } := by
  have hw0 : m.word 0 = 13 := by unfold Sre.M.word; rw [hpc]; exact h
  unfold Sre.M.exec
  rw [hw0]
  show (if m.pos ≥ m.lim then _ else _) = _
  rw [if_neg (by omega)]
  have e2 := accepts_in h e
  rw [← hpc] at e2
  show (match Sre.accepts m.code m.pc (m.text.getD m.pos 0) (m.seen.add 13) with | .error why => _ | .ok (false, seen) => _ | .ok (true, seen) => _) = _
  rw [e2]
  have hi : m.pc + Sre.itemWidth m.code m.pc = 33 := by
    unfold Sre.itemWidth
    rw [hpc, h]
    show 18 + (1 + m.code.getD 19 0) = 33
    rw [hw]
  show ({ m with seen := seen2, pc := m.pc + Sre.itemWidth m.code m.pc, pos := m.pos + 1 } : Sre.M) = _
  rw [hi]
theorem exec_success {m : Sre.M} (h : m.code.getD 33 0 = 1) (hpc : m.pc = 33) (hw : m.wholeText = false) (hm : m.mustAdvance = false) : m.exec = { m with seen := m.seen.add 1, handed := m.pos, answer := some true } := by
  have hw0 : m.word 0 = 1 := by unfold Sre.M.word; rw [hpc]; exact h
  unfold Sre.M.exec
  rw [hw0]
  show (if (m.outermost && ((m.wholeText && m.pos != m.lim) || (m.mustAdvance && m.pos == m.start))) = true then _ else _) = _
  rw [if_neg (by rw [hw, hm]; simp)]
  rfl
theorem run_out {code : Array Nat} {uns : Nat → Bool} (H : SetCode code uns) (m : Sre.M) (hcode : m.code = code) (hlim : m.lim = m.text.size) (hpc : m.pc = 18) (hfr : m.frames = []) (hw : m.weight = 0) (hout : m.outcome = none) (hans : m.answer = none) (hma : m.mustAdvance = false) (hwt : m.wholeText = false) :
    (Sre.M.runFor 4 (m.attemptFrom 0 true)).outcome = some (if ∃ i, i < m.text.size ∧ uns (m.text.getD i 0) = true then .matched else .failed) := by
  have hf : Sre.M.hasFirstSet m = true := by
    unfold Sre.M.hasFirstSet
    rw [hcode, H.w0, H.w2]; rfl
  obtain ⟨r, seen', e, hr⟩ := admitted_out H m hcode (m.lim + 1 - 0) 0 m.seen (by omega)
  unfold Sre.M.attemptFrom
  rw [hf, e]
  cases r with
  | none =>
    have hno : ¬ ∃ i, i < m.text.size ∧ uns (m.text.getD i 0) = true := by
      rintro ⟨i, h1, h2⟩
      rw [hr i (Nat.zero_le _) (by omega)] at h2; cases h2
    rw [if_neg hno]
    obtain ⟨code', text, lim, start, lastStart, wholeText, mustAdvance, pc, pos, handed, outermost, marks, lastmark, lastindex, loops, inner, frames, weight, answer, seen, outcome⟩ := m
    dsimp only at hcode hlim hpc hfr hw hout hans hma hwt
    subst hcode hfr hout hans
    rfl
  | some j =>
    obtain ⟨hj, _, hu⟩ := hr
    have hyes : ∃ i, i < m.text.size ∧ uns (m.text.getD i 0) = true := ⟨j, by omega, hu⟩
    rw [if_pos hyes]
    clear hyes
    obtain ⟨code', text, lim, start, lastStart, wholeText, mustAdvance, pc, pos, handed, outermost, marks, lastmark, lastindex, loops, inner, frames, weight, answer, seen, outcome⟩ := m
    dsimp only at hcode hlim hpc hfr hw hout hans hma hwt hj hu
    subst hcode hfr hout hans hpc hw hma hwt
    obtain ⟨seen2, e2⟩ := H.again (text.getD j 0) (seen'.add 13)
    have hlt : 18 < code'.size := by rw [H.sz]; decide
    have hlt2 : 33 < code'.size := by rw [H.sz]; decide
    show (Sre.M.runFor 4 (Sre.M.mk code' text lim j lastStart false false 18 j j true marks (-1) (-1) loops inner [{ wait := .nextStart, pc := 18, pos := j, outermost := true }] 1 none seen' none)).outcome = _
    rw [runFor_go rfl, step_exec rfl rfl hlt, exec_in H.w18 H.w19 rfl hj (seen2 := seen2) (by rw [hu] at e2; exact e2), runFor_go rfl, step_exec rfl rfl hlt2, exec_success H.w33 rfl rfl rfl]
    rfl
theorem search_out {code text : Array Nat} {uns : Nat → Bool} (H : SetCode code uns) (hn : 0 < text.size) :
    (Sre.M.runFor 4 (Sre.forSearch code text 0 0 text.size false)).outcome = some (if ∃ i, i < text.size ∧ uns (text.getD i 0) = true then .matched else .failed) := by
  have hh : Sre.header code = (1, 18) := by
    unfold Sre.header
    rw [H.w0, H.w3, H.w1]; rfl
  unfold Sre.forSearch
  simp only [hh]
  have hc : ¬ ((decide (0 > text.size) || decide (text.size - 0 < 1)) = true) := by
    simp only [Bool.or_eq_true, decide_eq_true_eq]; omega
  rw [if_neg hc]
  refine run_out H _ rfl rfl ?_ rfl rfl rfl rfl rfl rfl
  show (Sre.header code).2 = 18
  rw [hh]
end Mine
end
section
open PySem PySem.W PySem.W.X PyProof.Rows PySem.Calls
set_option Elab.async false
set_option maxRecDepth 100000
namespace Mine
variable {κ : Cx} {n : Nat} {env : Env} {h : Heap} {A : Around} {s s₀ : Shared} {V : Addr → Prop} {ρ : Str → Option Value} {δ δ' : Del} {Q : Flow → Shared → Prop} {rest : List Stmt}
open PySem.Builtin.Re in
structure SrchAt (h : Heap) (S : Addr) (code : Array Nat) : Prop where
  ok : ∃ P C o op oc vs items q, h.get? S = some o ∧ o.cls = .type "builtin_function_or_method" ∧ o.data = .fields #[.builtin "re.Pattern.search", .ref P] ∧
    h.get? P = some op ∧ op.cls = .type "re.Pattern" ∧ op.data = .fields vs ∧ vs.getD 2 .none = .int 0 0 ∧ vs.getD 5 .none = .ref C ∧ vs.getD 6 .none = .int 0 0 ∧
    h.get? C = some oc ∧ oc.data = .seq items q ∧ (items.map reRawOf).map (·.toNat) = code
theorem SrchAt.ext {T : Tb} {h' : Heap} {S : Addr} {code : Array Nat} (x : SrchAt h S code) (k : Ext T h h') : SrchAt h' S code := by
  refine Classical.byContradiction fun nay => ?_
  obtain ⟨P, C, o, op, oc, vs, items, q, a1, a2, a3, b1, b2, b3, b4, b5, b6, c1, c2, c3⟩ := x.ok
  refine nay ?_
  clear nay
  exact ⟨P, C, o, op, oc, vs, items, q, Ext.get k a1 (by rw [a2]; exact fun z => by cases z), a2, a3, Ext.get k b1 (by rw [b2]; exact fun z => by cases z), b2, b3, b4, b5, b6, Ext.get_data k c1 (by intro vs' z; rw [c2] at z; cases z), c2, c3⟩

theorem rules_loop {M : Model} {E : Value → Shared → Prop} {f : Nat → Bool} {g : Nat → String} : ∀ {l : List Nat} {Q : PUnit → Shared → Prop}, Q ⟨⟩ s → wpAny M A (forIn l PUnit.unit fun i _ => do
    if f i = true then rule (g i)
    pure (ForInStep.yield PUnit.unit)) Q E s
  | [], Q, hq => by rw [List.forIn_nil]; exact wpAny_pure hq
  | i :: l, Q, hq => by
    rw [List.forIn_cons]
    refine wpAny_bind ?_
    by_cases hf : f i = true
    · rw [if_pos hf]
      exact wpAny_bind (wpAny_rule (wpAny_pure (rules_loop hq)))
    · rw [if_neg hf]
      exact wpAny_pure (rules_loop hq)
theorem drive_one {M : Model} {E : Value → Shared → Prop} {m : Sre.M} {k : Nat} {Q : Sre.M → Shared → Prop} (ho : (m.runFor 4).outcome.isSome = true) (hq : Q (m.runFor 4) s) : wpAny M A (Builtin.Re.reDrive (k + 1) m) Q E s := by
  unfold Builtin.Re.reDrive
  show wpAny M A (if (m.runFor 4).outcome.isSome = true then pure (m.runFor 4) else _) Q E s
  rw [if_pos ho]
  exact wpAny_pure hq
theorem runToEnd {M : Model} {E : Value → Shared → Prop} {m : Sre.M} {b : Bool} {Q : Option Sre.M → Shared → Prop} (ho : (m.runFor 4).outcome = some (if b = true then .matched else .failed)) (hq : Q (if b = true then some (m.runFor 4) else none) s) : wpAny M A (Builtin.Re.reRunToEnd m) Q E s := by
  unfold Builtin.Re.reRunToEnd
  refine wpAny_bind (show wpAny M A (Builtin.Re.reDrive ((2 ^ 64 - 1) + 1) m) _ E s from drive_one (by rw [ho]; rfl) ?_)
  refine wpAny_bind (rules_loop ?_)
  rw [ho]
  cases b
  · exact wpAny_pure hq
  · exact wpAny_pure hq

noncomputable def sigSearch : Manifest.Signature := ⟨.keywords, "Pattern.search", "search", .self, [⟨"string", .posOrKw, true⟩, ⟨"pos", .posOrKw, false⟩, ⟨"endpos", .posOrKw, false⟩]⟩
theorem sigSearch_ok : Manifest.signature? "re.Pattern.search" = some sigSearch := by kernel_rfl
theorem kindSearch : builtinKind "re.Pattern.search" = some .method := by kernel_rfl
theorem argsSearch {P : Addr} {x : Str} {t : Tok} : Bind.checkArgs "re.Pattern.search" { sigSearch with full := "Pattern.search" } ⟨[.ref P, .str x t], []⟩ = pure () := by kernel_rfl
theorem if_not' {α : Type} {M : Model} {E : Value → Shared → Prop} {c : Bool} {a b : Sem α} {Q : α → Shared → Prop} (hc : c = false) (h : wpAny M A b Q E s) : wpAny M A (if c = true then a else b) Q E s := by rw [hc, if_neg (by simp)]; exact h
theorem if_so' {α : Type} {M : Model} {E : Value → Shared → Prop} {c : Bool} {a b : Sem α} {Q : α → Shared → Prop} (hc : c = true) (h : wpAny M A a Q E s) : wpAny M A (if c = true then a else b) Q E s := by rw [hc, if_pos rfl]; exact h
theorem boundCheck {M : Model} {E : Value → Shared → Prop} {P : Addr} {x : Str} {t : Tok} {op : Obj} {vs : Array Value} {Q : Unit → Shared → Prop} (ho : s.heap.get? P = some op) (hc : op.cls = .type "re.Pattern") (hd : op.data = .fields vs) (hq : Q () s) : wpAny M A (checkBoundCall "re.Pattern.search" ⟨[.ref P, .str x t], []⟩) Q E s := by
  have hT : s.TypeIs (.ref P) "re.Pattern" := ⟨op, ho, hc⟩
  unfold checkBoundCall
  rw [sigSearch_ok, kindSearch]
  refine if_not' rfl ?_
  refine wpAny_bind (wpAny_isInstance hT (b := false) (by rw [isSubtype_type]; kernel_rfl) ?_)
  refine if_not' (by kernel_rfl) ?_
  refine wpAny_bind ?_
  refine wpAny_bind (wpAny_loadPart ho ?_)
  rw [hd]
  refine wpAny_pure ?_
  refine if_not' rfl ?_
  refine wpAny_bind (wpAny_typeOf hT ?_)
  exact wpAny_of_eq (a := ()) (argsSearch (P := P) (x := x) (t := t)) hq
theorem entrySearch : entryFor table "re.Pattern.search" = some Builtin.«re.Pattern.search» := entryFor_of_tree (by kernel_rfl)
theorem quietSearch {args : Args} : (Code.builtin "re.Pattern.search" args).quiet = true := plainId_quiet (by kernel_rfl) args
theorem namedSearch {x : Str} {t : Tok} : Builtin.Re.reNamed "re.Pattern.search" "search" ["string", "pos", "endpos"] 1 [.str x t] [] = pure [some (.str x t), none, none] := by kernel_rfl
open PySem.Builtin.Re in
theorem targetSearch {M : Model} {E : Value → Shared → Prop} {P C : Addr} {x : Str} {t : Tok} {op oc : Obj} {vs items : Array Value} {q : Nat} {code : Array Nat} {Q : ReTarget → Shared → Prop} (ho : s.heap.get? P = some op) (hd : op.data = .fields vs)
    (v2 : vs.getD 2 .none = .int 0 0) (v5 : vs.getD 5 .none = .ref C) (v6 : vs.getD 6 .none = .int 0 0) (hc : s.heap.get? C = some oc) (hcd : oc.data = .seq items q) (hcode : (items.map reRawOf).map (·.toNat) = code)
    (hz : x.length ≤ sizeLine) (hq : Q ⟨.ref P, .str x t, code, x.cps, 0, 0, 0, x.cps.size⟩ s) : wpAny M A (reTarget "re.Pattern.search" "search" ⟨[.ref P, .str x t], []⟩) Q E s := by
  unfold reTarget
  refine wpAny_bind (wpAny_of_eq (a := [some (.str x t), none, none]) namedSearch ?_)
  refine wpAny_bind (wpAny_pure ?_)
  refine wpAny_bind (wpAny_pure ?_)
  refine wpAny_bind (wpAny_fieldsOf ho hd ?_)
  refine wpAny_bind (wpAny_bind (wpAny_pure (wpAny_pure ?_)))
  rw [v6, v2, v5]
  refine if_not' rfl (if_not' rfl ?_)
  refine wpAny_bind (wpAny_of_eq (a := ()) rfl ?_)
  refine wpAny_bind (wpAny_bind (wpAny_seqItems hc hcd (wpAny_pure ?_)))
  refine wpAny_pure ?_
  have hz' : x.cps.size ≤ 16777216 := by have : x.length ≤ 16777216 := by simpa [sizeLine] using hz
                                         exact this
  have e : min (2 ^ 63 - 1 : Int).toNat x.cps.size = x.cps.size := by
    refine Nat.min_eq_right (Nat.le_trans hz' ?_)
    decide
  have e0 : min (0 : Int).toNat x.cps.size = 0 := by simp
  show Q ⟨.ref P, .str x t, (items.map reRawOf).map (·.toNat), x.cps, 0, 0, min (0 : Int).toNat x.cps.size, min (2 ^ 63 - 1 : Int).toNat x.cps.size⟩ s
  rw [e, e0, hcode]
  exact hq
noncomputable def Unsf (uns : Nat → Bool) (x : Str) : Bool := x.cps.any uns
theorem unsf_iff {uns : Nat → Bool} {x : Str} : (∃ i, i < x.cps.size ∧ uns (x.cps.getD i 0) = true) ↔ Unsf uns x = true := by
  unfold Unsf
  rw [Array.any_eq_true]
  constructor
  · rintro ⟨i, h, e⟩; exact ⟨i, h, by rw [Array.getD_eq_getD_getElem?, Array.getElem?_eq_getElem h] at e; exact e⟩
  · rintro ⟨i, h, e⟩; exact ⟨i, h, by rw [Array.getD_eq_getD_getElem?, Array.getElem?_eq_getElem h]; exact e⟩
theorem newMatch {M : Model} {E : Value → Shared → Prop} {p x : Value} {a b : Nat} {m : Sre.M} {Q : Value → Shared → Prop}
    (hq : Q (.ref (s.heap.push { cls := .type "tuple", data := .seq [rawInt m.start, rawInt m.handed].toArray }).objs.size) { s with heap := (s.heap.push { cls := .type "tuple", data := .seq [rawInt m.start, rawInt m.handed].toArray }).push { cls := .type "re.Match", data := .fields [x, p, rawInt a, rawInt b, rawInt m.lastindex, .ref s.heap.objs.size].toArray } }) :
    wpAny M A (Builtin.Re.reNewMatch p x 0 a b m) Q E s := by
  unfold Builtin.Re.reNewMatch
  refine if_not' rfl ?_
  exact wpAny_bind (wpAny_newTuple (wpAny_newObj_type hq) (show 2 ≤ sizeLine by decide))
/-- what the search of a set gives -/
noncomputable def Srch (b : Bool) : Pr := fun _ v _ => if b = true then ∃ a, v = .ref a else v = .none
theorem fun_search {S : Addr} {code : Array Nat} {uns : Nat → Bool} {x : Str} (H : SetCode code uns) (hs : SrchAt h S code) (hn : 0 < x.length) (hz : x.length ≤ sizeLine) : Fun κ n h (.ref S) (One (Is (.str x))) (Srch (Unsf uns x)) := by
  rintro A s V vs rm y ⟨v, rfl, p⟩
  cases p with | str _ t => ?_
  refine Classical.byContradiction fun nay => ?_
  obtain ⟨P, C, o, op, oc, vs, items, q, a1, a2, a3, b1, b2, b3, b4, b5, b6, c1, c2, c3⟩ := (hs.ext y.ext).ok
  refine nay ?_
  clear nay
  refine wpAny_call (codeAny_of_tree ?_)
  show wpAny _ A.in1 (callAny (.ref S) ⟨[.str x t], []⟩) _ _ s
  simp only [callAny]
  refine wpAny_bind (wpAny_load a1 ?_)
  rw [a3, a2]
  refine if_so' (by decide) ?_
  refine if_so' (by decide) ?_
  refine wpAny_bind (boundCheck b1 b2 b3 ?_)
  refine wpAny_bind (wpAny_pure (wpAny_pure ⟨quietSearch, codeAny_builtin entrySearch ?_⟩))
  refine wpAny_bind (targetSearch b1 b3 b4 b5 b6 c1 c2 c3 hz ?_)
  have ho := search_out (text := x.cps) H hn
  have hb : (if ∃ i, i < x.cps.size ∧ uns (x.cps.getD i 0) = true then Sre.Outcome.matched else Sre.Outcome.failed) = if Unsf uns x = true then .matched else .failed := by
    by_cases z : Unsf uns x = true
    · rw [if_pos z, if_pos (unsf_iff.mpr z)]
    · rw [if_neg z, if_neg (fun w => z (unsf_iff.mp w))]
  rw [hb] at ho
  refine wpAny_bind (runToEnd ho ?_)
  unfold Srch
  cases hu : Unsf uns x with
  | false => exact wpAny_pure ⟨rfl, .refl s⟩
  | true =>
    exact wpAny_bind (newMatch (wpAny_pure ⟨⟨_, rfl⟩, .trans .newObj .newObj⟩))
end Mine
end
section
open PySem PySem.W PySem.W.X PyProof.Rows PySem.Calls
set_option Elab.async false
set_option maxRecDepth 100000
namespace Mine
variable {κ : Cx} {n : Nat} {env : Env} {h : Heap} {A : Around} {s s₀ : Shared} {V : Addr → Prop} {ρ : Str → Option Value} {δ δ' : Del} {Q : Flow → Shared → Prop} {rest : List Stmt}

/-! ## one sign, put as others -/
noncomputable def sub1 (c : Nat) (z l : List Nat) : List Nat := l.flatMap fun a => if a = c then z else [a]
theorem sub1_append (c : Nat) (z a b : List Nat) : sub1 c z (a ++ b) = sub1 c z a ++ sub1 c z b := by simp [sub1]
theorem sub1_cons (c : Nat) (z : List Nat) (a : Nat) (b : List Nat) : sub1 c z (a :: b) = (if a = c then z else [a]) ++ sub1 c z b := by simp [sub1]
theorem sub1_free (c : Nat) (z : List Nat) : ∀ l : List Nat, c ∉ l → sub1 c z l = l
  | [], _ => rfl
  | a :: l, h => by
    rw [sub1_cons, if_neg (fun e => h (by simp [e])), sub1_free c z l fun m => h (List.mem_cons_of_mem _ m)]
    rfl
theorem sub1_join (c : Nat) (z : Str) : ∀ parts : List Str, (∀ p ∈ parts, c ∉ p.cps.toList) → (Str.join z parts).cps.toList = sub1 c z.cps.toList (Str.join ⟨#[c]⟩ parts).cps.toList
  | [], _ => rfl
  | [p], h => (sub1_free c _ _ (h p (List.mem_singleton.mpr rfl))).symm
  | p :: q :: r, h => by
    have ih := sub1_join c z (q :: r) fun a ha => h a (List.mem_cons_of_mem _ ha)
    show (p ++ z ++ Str.join z (q :: r)).cps.toList = sub1 c _ (p ++ ⟨#[c]⟩ ++ Str.join ⟨#[c]⟩ (q :: r)).cps.toList
    simp only [Str.cps_append, Array.toList_append, sub1_append]
    rw [ih, sub1_free c _ _ (h p (List.mem_cons_self ..))]
    congr 1
    congr 1
    show z.cps.toList = sub1 c z.cps.toList [c]
    simp [sub1]
theorem str_eq_tx (x : Str) : x = tx x.cps.toList := by simp [tx]
theorem sub1_split (l : List Nat) (c : Nat) (z : List Nat) : Str.join (tx z) (Txt.split (tx l) ⟨#[c]⟩) = tx (sub1 c z l) := by
  rw [str_eq_tx (Str.join _ _), sub1_join c _ _ (StrLaws.split_free (tx l) c), StrLaws.join_split]
  simp [tx]
theorem replace_tx (l : List Nat) (c : Nat) (z : List Nat) : Txt.replace (tx l) ⟨#[c]⟩ (tx z) = tx (sub1 c z l) := by rw [StrLaws.replace_one, sub1_split]

/-! ## rules -/
theorem evb_str {c : Expr} {x : Str} (a : Ev κ n env h c (Is (.str x))) (hz : x.length ≤ sizeLine)
    (he : ∀ whole, isTrue c env whole = (do let v ← whole; standAt c.pos; holding [v] (truthy v)) := by intro _; rfl) : EvB κ n env h c ((x.length : Int) != 0) := fun A s V rm y =>
  isTrue_plain (a.go rm y fun v s1 p l _ => by
    cases p
    have hz' : x.length ≤ 16777216 := by simpa [sizeLine] using hz
    exact P.truthy_str (by omega) ⟨rfl, l.trans .toks⟩) (he _)
theorem evb_is_none {l : Expr} {k : Nat} {p pos : Pos} {P : Pr} {b : Bool} (a : Ev κ n env h l P) (hp : Per κ P) (hb : ∀ V v h', P V v h' → (v == .none) = b) (hm : behindInMarks .Is (.Constant .none k p) = false := by with_unfolding_all rfl) : EvB κ n env h (.Compare l [.Is] [.Constant .none k p] pos) b :=
  evb_cmp (b' := b) a hp ev_none (fun _ s V v _ _ x y => by
    cases y
    refine is_none ⟨?_, .refl s⟩
    rw [hb V v _ x]
    exact .bool _) rfl hm
theorem srch_per {b : Bool} : Per κ (Srch b) := fun _ _ _ _ _ x => x
theorem srch_none {b : Bool} : ∀ V v h', Srch b V v h' → (v == .none) = !b := fun _ v _ x => by
  unfold Srch at x
  cases b
  · rw [if_neg (by simp)] at x; rw [x]; rfl
  · rw [if_pos rfl] at x; obtain ⟨a, rfl⟩ := x; rfl
/-- a bound built-in, called by its name -/
theorem ev_call_m {f : Str} {p pos : Pos} {e : Expr} {es : List Expr} {S : Addr} {code : Array Nat} {Pa : (Addr → Prop) → List Value → Heap → Prop} {P : Pr} (a : Vr κ h env f (.ref S)) (hs : SrchAt h S code) (b : EvL κ n env h (e :: es) Pa) (c : Fun κ n h (.ref S) Pa P)
    (he : ∀ pos, backTo pos (starEach (e :: es) env) = (false, eval e env) :: backTo pos (starEach es env) := by intro _; rfl)
    (hp : ∀ pos, (backTo pos (starEach (e :: es) env)).any (·.1) = false := by intro _; rfl) (hd : (f == ("__debug__" : Str)) = false := by decide) : Ev κ n env h (.Call (.Name f p) (e :: es) [] pos) P := by
  intro A s V rm y
  refine wpAny_Call_NameR (wpAny_Name (a A _ _ s y.ext ?_) hd)
  unfold callWith
  have hpp := hp pos
  have z := fun Q k => b.go (A := A) (s := s) (V := V) (Q := Q) (E := fun _ _ => False) pos rm y k
  rw [he] at z hpp ⊢
  refine wpAny_bind (wpAny_holding (evalArgs_plain (z _ fun vs s1 pv l y1 => wpAny_bind (wpAny_standAt ?_))))
  rw [hpp]
  refine Classical.byContradiction fun nay => ?_
  obtain ⟨Pa', C, o, op, oc, vs', items, q, a1, a2, a3, _⟩ := (hs.ext y1.ext).ok
  refine nay ?_
  clear nay
  refine wpAny_bind ?_
  unfold keeperOf
  refine wpAny_bind (wpAny_load a1 ?_)
  rw [a3, a2]
  refine if_so' (by decide) ?_
  refine wpAny_pure ?_
  rw [if_pos (by decide)]
  exact wpAny_bind (wpAny_mono ((c A s1 V vs rm y1 pv).after l) (fun r s2 hr => wpAny_bind (wpAny_holding (wpAny_point (wpAny_pure hr)))) fun _ _ x => x)
theorem ev_replace {o : Expr} {apos pos p1 p2 : Pos} {k1 k2 : Nat} {x y z : Str} (a : Ev κ n env h o (Is (.str x))) (hyz : (y == z) = false) (hz : x.length + (x.length + 1) * z.length ≤ 16777216)
    (hb : attributeBase o "replace" env (eval o env) = eval o env := by rfl) (hln : (apos.endLine == pos.line) = true := by rfl)
    (he : backTo pos (starEach [.Constant (.str y) k1 p1, .Constant (.str z) k2 p2] env) = [(false, eval (.Constant (.str y) k1 p1) env), (false, eval (.Constant (.str z) k2 p2) env)] := by rfl) :
    Ev κ n env h (.Call (.Attribute o "replace" apos) [.Constant (.str y) k1 p1, .Constant (.str z) k2 p2] [] pos) (Is (.str (Txt.replace x y z))) := by
  intro A s V rm yy
  refine wpAny_Call_method2_late hb hln he (a.go rm yy fun v s1 pv l1 y1 => ?_)
  cases pv
  refine ⟨"str", "str.replace", F.plainAttrs_str, F.slot_str_replace, F.type_str_replace, typeIs_str _ _ _, fun _ e => (by cases e), callWith_builtin (by rfl) (evalArgs_plain (spliced_cons (wpAny_Constant_str (spliced_cons (wpAny_Constant_str (spliced_nil ?_))))))⟩
  have := y1.tk
  exact SC.replace (by show s1.toks ≠ 0; omega) (by show s1.toks + 1 ≠ 0; omega) (by show s1.toks ≠ s1.toks + 1; omega) hyz hz fun _ _ => ⟨.str _ _, l1.trans .toks⟩
/-- a list of texts that split made -/
noncomputable def StrL (xs : List Str) : Pr := fun _ v h => ∃ D l, v = .ref D ∧ h.IsList D (strValues l).toArray ∧ l.map (·.1) = xs
theorem strL_per {xs : List Str} : Per κ (StrL xs) := fun _ _ _ _ k zz => by obtain ⟨D, l, e, ⟨o, ho, hc, q, hd⟩, r⟩ := zz; exact ⟨D, l, e, ⟨o, Ext.get_data k ho (by intro vs z; rw [hd] at z; cases z), hc, q, hd⟩, r⟩
theorem split_many (x : Str) (c : Nat) : (Builtin.Str.partsBetween x (Builtin.Str.occurrences x ⟨#[c]⟩ 0 x.length (x.length + 1)) (⟨#[c]⟩ : Str).length).length ≤ x.length + 2 := by
  have h1 := StrLaws.occ_length_le x ⟨#[c]⟩ 0 x.length (x.length + 1)
  unfold Builtin.Str.partsBetween
  simp only [List.length_map, List.length_zip, List.length_cons, List.length_append, List.length_nil]
  omega
theorem ev_split {o e : Expr} {apos pos : Pos} {x : Str} {c : Nat} (a : Ev κ n env h o (Is (.str x))) (b : Ev κ n env h e (Is (.str ⟨#[c]⟩))) (hz : x.length + 2 ≤ sizeLine) (hb : attributeBase o "split" env (eval o env) = eval o env := by rfl) (hln : (apos.endLine == pos.line) = true := by rfl) (he : backTo pos (starEach [e] env) = [(false, eval e env)] := by rfl) :
    Ev κ n env h (.Call (.Attribute o "split" apos) [e] [] pos) (StrL (Txt.split x ⟨#[c]⟩)) :=
  ev_meth1 a Is.per b F.plainAttrs_str F.slot_str_split F.type_str_split str_tp (fun A s V v u _ _ p q => by
    cases p; cases q
    exact SCH.split1 (hsz := by omega) (hsz2 := Nat.le_trans (split_many x c) hz) (keptH_ext (h := s.heap)) (fun _ _ q => q) rfl fun D l h' k e1 e2 e3 => ⟨⟨D, l, rfl, e3, e1⟩, .of_keep e2⟩) hb hln he
end Mine
end
section
open PySem PySem.W PySem.W.X PyProof.Rows PySem.Calls
set_option Elab.async false
set_option maxRecDepth 100000
namespace Mine
variable {κ : Cx} {n : Nat} {env : Env} {h : Heap} {A : Around} {s s₀ : Shared} {V : Addr → Prop} {ρ : Str → Option Value} {δ δ' : Del} {Q : Flow → Shared → Prop} {rest : List Stmt}

/-! ## sources -/
/-- an iterator alone -/
theorem Wk.one {s1 : Shared} {o : Obj} {ds : List Da} {P : Nat → Value → Prop} {St : Nat → Heap → Prop} (rm : Rm n A) (l1 : Lt κ.T NoX s s1)
    (W : ∀ A' : Around, A'.handled = none → Walks κ.prog κ.w A' s1.heap.objs.size [s1.heap.objs.size] [s1.heap.objs.size] ds.length P St) (h0 : St 0 (s1.heap.push o))
    (hs : ∀ i h', St i h' → ∃ o vs T, h'.get? s1.heap.objs.size = some o ∧ o.cls = .type T ∧ T ≠ "code" ∧ o.data = .fields vs)
    (hi : ∀ (i : Nat) v, i < ds.length → P i v → ∃ d, ds[i]? = some d ∧ ∀ h', Dn V h' v d) :
    Wk κ A V s { s1 with heap := s1.heap.push o } s1.heap.objs.size ds [s1.heap.objs.size] [s1.heap.objs.size] P St := by
  refine ⟨rm.hd, W, ?_, ?_, h0, ?_, ?_, ?_, ?_⟩
  · intro i h' st b hb o e
    refine Classical.byContradiction fun nay => ?_
    obtain ⟨o', vs, T, e', hc, hT, hd⟩ := hs i h' st
    refine nay ?_
    clear nay
    rw [List.mem_singleton.mp hb, e'] at e; cases e
    rw [hc]
    exact ⟨fun q => (by cases q), fun q => hT (by cases q; rfl)⟩
  · intro i h' st b hb o e
    refine Classical.byContradiction fun nay => ?_
    obtain ⟨o', vs, T, e', hc, hT, hd⟩ := hs i h' st
    refine nay ?_
    clear nay
    rw [List.mem_singleton.mp hb, e'] at e; cases e
    exact .inl ⟨_, hd⟩
  · intro b hb
    rw [List.mem_singleton.mp hb]
    show _ < (s1.heap.push o).objs.size
    rw [Heap.size_push]; exact Nat.lt_succ_self _
  · intro b hb
    rw [List.mem_singleton.mp hb]
    exact Ext.back l1.ext (get_none_of_size (Nat.le_refl _))
  · intro i h' st b hb o e q
    refine Classical.byContradiction fun nay => ?_
    obtain ⟨o', vs', T, e', hc, hT, hd⟩ := hs i h' st
    refine nay ?_
    clear nay
    rw [List.mem_singleton.mp hb, e'] at e; cases e
    exact q.ne hd rfl
  · intro i v hl p
    refine Classical.byContradiction fun nay => ?_
    obtain ⟨d, e, k⟩ := hi i v hl p
    refine nay ?_
    clear nay
    exact ⟨d, e, k _⟩
/-- range(k) -/
noncomputable def Rg (k : Nat) : Pr := fun _ v h => ∃ r t u w, v = .ref r ∧ IsRange h r 0 k 1 t u w
theorem rg_per {k : Nat} : Per κ (Rg k) := fun _ _ _ _ e zz => by obtain ⟨r, t, u, w, hv, ho⟩ := zz; exact ⟨r, t, u, w, hv, Ext.get e ho fun z => by cases z⟩
theorem fun_range {k : Nat} : Fun κ n h (.type "range") (One (Is (.int k))) (Rg k) := by
  rintro A s V vs rm y ⟨v, rfl, p⟩
  cases p
  exact call_range_1 ⟨⟨_, _, _, _, rfl, IsRange.new _ _ _ _ _ _ _⟩, .of_keep fun _ _ e => Heap.get?_push_of_some _ e⟩
noncomputable def upto (k : Nat) : List Da := (List.range k).map fun i : Nat => Da.int (i : Int)
theorem upto_get {k i : Nat} (h : i < k) : (upto k)[i]? = some (.int (i : Int)) := by simp [upto, h]
theorem upto_length (k : Nat) : (upto k).length = k := by simp [upto]
theorem src_range {iter : Expr} {k : Nat} (hk : k ≤ 1000000) (a : Ev κ n env h iter (Rg k)) : Src κ n env h iter (upto k) := by
  intro A s V rm y
  refine a.go rm y fun v s1 pv l1 y1 => ?_
  refine Classical.byContradiction fun nay => ?_
  obtain ⟨r, t, u, w, rfl, R⟩ := pv
  refine nay ?_
  clear nay
  have hsz : Builtin.Range.rangeSize 0 k 1 = k := by
    rw [rangeSize_one]
    split <;> omega
  have hsm : Builtin.Range.small 0 k 1 = true := small_one (by omega) (by omega) (by omega) (by omega)
  refine wpAny_pyIter_range R hsm ⟨l1.trans .newObj, s1.heap.objs.size, _, _, _, _, rfl, Wk.one rm l1 (fun A' hd => by rw [upto_length]; exact Walks.range hd s1.heap.objs.size 0 1 k) ?_ ?_ ?_⟩
  · rw [hsz]
    show IsRangeIter _ _ _ _ _
    have := Heap.get?_push_size (h := s1.heap) (o := { cls := .type "range_iterator", data := .fields #[rawInt 0, rawInt (k : Int), rawInt 1] }) rfl
    simpa using this
  · intro i h' ho
    exact ⟨_, _, _, ho, rfl, by decide, rfl⟩
  · rintro i v hi ⟨t, rfl⟩
    rw [upto_length] at hi
    refine ⟨_, upto_get hi, fun h' => ?_⟩
    rw [show (0 : Int) + (i : Int) * 1 = i by omega]
    exact .int _ _
theorem src_tup {iter : Expr} {ds : List Da} (a : Ev κ n env h iter (Is (.tup ds))) : Src κ n env h iter ds := by
  intro A s V rm y
  refine a.go rm y fun v s1 pv l1 y1 => ?_
  cases pv with
  | @tup ax items _ va pl r =>
    have hax : ax < s1.heap.objs.size := by obtain ⟨_, e, _⟩ := pl; exact Heap.lt_size e
    have hlen : ds.length = items.size := by rw [← r.length, Array.length_toList]
    have W := fun (A' : Around) (hd : A'.handled = none) => Walks.tuple (prog := κ.prog) (w := κ.w) (A := A') hd s1.heap.objs.size ax (Nat.ne_of_lt hax) items
    rw [← hlen] at W
    refine wpAny_pyIter_tuple pl ⟨l1.trans .newObj, s1.heap.objs.size, _, _, _, _, rfl, rm.hd, W, ?_, ?_, ⟨⟨_, Heap.get?_push_size _ rfl, rfl, rfl⟩, pl.push _⟩, ?_, ?_, ?_, ?_⟩
    · rintro i h' ⟨⟨o, ho, hc, _⟩, ⟨o', ho', hc', _⟩⟩ b hb ob e
      simp only [List.mem_cons, List.not_mem_nil, or_false] at hb
      rcases hb with rfl | rfl
      · rw [ho] at e; cases e; rw [hc]; exact ⟨fun q => (by cases q), by decide⟩
      · rw [ho'] at e; cases e; rw [hc']; exact ⟨fun q => (by cases q), by decide⟩
    · rintro i h' ⟨⟨o, ho, _, hd⟩, ⟨o', ho', _, q, hd'⟩⟩ b hb ob e
      simp only [List.mem_cons, List.not_mem_nil, or_false] at hb
      rcases hb with rfl | rfl
      · rw [ho] at e; cases e; exact .inl ⟨_, hd⟩
      · rw [ho'] at e; cases e; exact .inr ⟨_, _, hd'⟩
    · intro b hb
      simp only [List.mem_cons, List.not_mem_nil, or_false] at hb
      show b < (s1.heap.push _).objs.size
      rw [Heap.size_push]
      rcases hb with e | e
      · rw [e]; exact Nat.lt_succ_self _
      · rw [e]; exact Nat.lt_succ_of_lt hax
    · intro b hb
      simp only [List.mem_cons, List.not_mem_nil, or_false] at hb
      subst hb
      exact Ext.back l1.ext (get_none_of_size (Nat.le_refl _))
    · rintro i h' ⟨⟨o, ho, hc, hd⟩, _⟩ b hb ob e q
      simp only [List.mem_cons, List.not_mem_nil, or_false] at hb
      subst hb
      rw [ho] at e; cases e
      exact q.ne hd rfl
    · intro i v _ hv
      refine Classical.byContradiction fun nay => ?_
      obtain ⟨d, hd, dv⟩ := r.get' (i := i) (v := v) (by simpa using hv)
      refine nay ?_
      clear nay
      exact ⟨d, hd, dv.kv (Ext.kv (T := κ.T) (ExtB.push _))⟩
noncomputable def chars (l : List Nat) : List Da := l.map fun c => Da.str (tx [c])
theorem src_str {iter : Expr} {l : List Nat} (a : Ev κ n env h iter (Is (.str (tx l)))) : Src κ n env h iter (chars l) := by
  intro A s V rm y
  refine a.go rm y fun v s1 pv l1 y1 => ?_
  cases pv with | str _ t => ?_
  have hlen : (chars l).length = (tx l).cps.size := by simp [chars, tx]
  have hit : ∀ (i : Nat) v, i < (chars l).length → SignAt (tx l) i v → ∃ d, (chars l)[i]? = some d ∧ ∀ h', Dn V h' v d := by
    rintro i v hi ⟨c, u, e, rfl⟩
    rw [tx_get] at e
    exact ⟨.str (tx [c]), by simp [chars, e], fun h' => .str _ _⟩
  cases ha : (tx l).cps.all (· < 128) with
  | true =>
    refine wpAny_pyIter_ascii ha ⟨l1.trans .newObj, s1.heap.objs.size, _, _, _, _, rfl, Wk.one rm l1 (St := fun i h => h.IsStrIter s1.heap.objs.size "str_ascii_iterator" (tx l) t i) (fun A' hd => by rw [hlen]; exact Walks.strAscii hd s1.heap.objs.size (tx l) t) ⟨_, Heap.get?_push_size _ rfl, rfl, rfl⟩ ?_ hit⟩
    rintro i h' ⟨o, ho, hc, hd⟩
    exact ⟨o, _, _, ho, hc, by decide, hd⟩
  | false =>
    refine wpAny_pyIter_wide ha ⟨l1.trans .newObj, s1.heap.objs.size, _, _, _, _, rfl, Wk.one rm l1 (St := fun i h => h.IsStrIter s1.heap.objs.size "str_iterator" (tx l) t i) (fun A' hd => by rw [hlen]; exact Walks.strWide hd s1.heap.objs.size (tx l) t) ⟨_, Heap.get?_push_size _ rfl, rfl, rfl⟩ ?_ hit⟩
    rintro i h' ⟨o, ho, hc, hd⟩
    exact ⟨o, _, _, ho, hc, by decide, hd⟩
end Mine
end
section
open PySem PySem.W PySem.W.X PyProof.Rows PySem.Calls
set_option Elab.async false
set_option maxRecDepth 100000
namespace Mine
variable {κ : Cx} {n : Nat} {env : Env} {h : Heap} {A : Around} {s s₀ : Shared} {V : Addr → Prop} {ρ : Str → Option Value} {δ δ' : Del} {Q : Flow → Shared → Prop} {rest : List Stmt}

/-! ## for -/
/-- objects that are new to the call, and no part of the frame, are turned -/
theorem In.turn {wr : List Addr} {h₁ : Heap} {tk : Nat} (F : In κ h V s₀ env ρ s) (k : ∀ b o, b ∉ wr → s.heap.get? b = some o → h₁.get? b = some o) (new : ∀ b ∈ wr, s₀.heap.get? b = none) (nl : ∀ b ∈ wr, ¬ Loc env b) (cm : Calm s.heap h₁) (t : 0 < tk) :
    In κ h V s₀ env ρ ⟨h₁, s.gens, s.drawn, tk, s.os⟩ := by
  have e1 : ExtB κ.T (fun b => b ∈ wr) s.heap h₁ := fun b o hb e => .inl (k b o hb e)
  have l : Lt κ.T NoX s₀ ⟨h₁, s.gens, s.drawn, tk, s.os⟩ := ⟨ExtB.fresh F.l.ext e1 new, F.l.gens, F.l.os, fun g => κ.T.st _ _ (F.l.ok g) cm, F.l.same⟩
  have kc : ∀ b o, b ∉ wr → (cutH V s.heap).get? b = some o → (cutH V h₁).get? b = some o := fun b o hb e => by
    by_cases vb : V b
    · rw [cutH_yes vb] at e ⊢; exact k b o hb e
    · rw [cutH_no vb] at e; cases e
  refine ⟨F.b, F.y, l, t, ⟨F.b.ext (cutH_of (F.y.ext.trans l.ext) fun a e => F.y.vis a (.inl e)), F.fm.kind, F.fm.glob, F.fm.blt, ?_, ?_⟩, F.newL, F.newC, F.inj⟩
  · refine Classical.byContradiction fun nay => ?_
    obtain ⟨m, hn, hm⟩ := F.fm.ns
    refine nay ?_
    clear nay
    exact ⟨m, hn.at' fun o e => kc _ o (fun hb => nl _ hb (.inl rfl)) e, hm⟩
  · intro x a e
    refine Classical.byContradiction fun nay => ?_
    obtain ⟨u, ⟨o, eo, hd⟩, r⟩ := F.fm.cl x a e
    refine nay ?_
    clear nay
    exact ⟨u, ⟨o, kc _ o (fun hb => nl _ hb (.inr ⟨x, e⟩)) eo, hd⟩, r⟩
/-- the frame's own objects -/
theorem In.locAt (F : In κ h V s₀ env ρ s) : ∀ b, Loc env b → ∃ o, s.heap.get? b = some o ∧ (∀ vs, o.data ≠ .fields vs) ∧ (Held o → False) := by
  rintro b (rfl | ⟨x, e⟩)
  · refine Classical.byContradiction fun nay => ?_
    obtain ⟨m, ⟨o, es, ep, e, hd, _⟩, _⟩ := F.fm.ns
    refine nay ?_
    clear nay
    rw [cutH_yes F.vL] at e
    exact ⟨o, e, (fun vs z => by rw [hd] at z; cases z), (fun z => z.ne hd rfl)⟩
  · refine Classical.byContradiction fun nay => ?_
    obtain ⟨u, ⟨o, eo, hd⟩, _⟩ := F.fm.cl x b e
    refine nay ?_
    clear nay
    rw [cutH_yes (F.y.vis _ (.inr (F.newC x b e)))] at eo
    exact ⟨o, eo, (fun vs z => by rw [hd] at z; cases z), (fun z => z.ne hd rfl)⟩
noncomputable def fl (κ : Cx) (h : Heap) (V : Addr → Prop) (s₀ : Shared) (env : Env) (J : Nat → Prop) (δf : Nat → Del) (δ' : Del) (i : Nat) (Q : Flow → Shared → Prop) : Flow → Shared → Prop := fun f s => match f with
  | .next | .cont => J (i + 1) ∧ Fr κ h V s₀ env (δf (i + 1)) s
  | .brk => Fr κ h V s₀ env δ' s
  | .ret v => Q (.ret v) s
theorem ex_for {x : Str} {p pos : Pos} {iter : Expr} {body : List Stmt} {ds : List Da} (J : Nat → Prop) (δf : Nat → Del)
    (hsrc : ∀ h', Ext κ.T h h' → Fd κ h' env δ → Src κ n env h' iter ds)
    (hb : ∀ i d, ds[i]? = some d → J i → Ex κ n h V s₀ env ((x, d) :: δf i) body (fl κ h V s₀ env J δf δ' i Q))
    (ho : J ds.length → Sub δ' (δf ds.length)) (j0 : J 0) (h0 : Sub (δf 0) δ) (k : Ex κ n h V s₀ env δ' rest Q)
    (hl : (env.kindOf x == some .local || (env.kindOf x == some .cell && (env.cells.lookup x).isSome)) = true := by rfl)
    (hs : ∀ x, foldedSetIterable iter env x = pure x := by intro _; rfl) (ht : ∀ I v, letOwnedTupleGo (.Name x p) (.ref I) v = pure () := by intro _ _; rfl) : Ex κ n h V s₀ env δ (.For (.Name x p) iter body [] pos :: rest) Q := by
  intro A s rm F
  have hl' : env.kindOf x = some .local ∨ (env.kindOf x = some .cell ∧ (env.cells.lookup x).isSome = true) := by simpa using hl
  refine wpAny_execs_cons (wpAny_For ((hsrc _ F.ext F.fd).go rm F.at fun I fp wr P St s₂ l2 y2 W => ?_) hs)
  have F2 := F.on l2 y2.tk
  have lo2 : ∀ b, Loc env b → s.heap.get? b ≠ none := by
    refine Classical.byContradiction fun nay => ?_
    obtain ⟨ρ, G, _⟩ := F.ex
    refine nay ?_
    clear nay
    intro b hb
    refine Classical.byContradiction fun nay => ?_
    obtain ⟨o, e, _⟩ := G.locAt b hb
    refine nay ?_
    clear nay
    rw [e]; exact fun z => by cases z
  have nl : ∀ b ∈ wr, ¬ Loc env b := fun b hb lb => lo2 b lb (W.new b hb)
  have new : ∀ b ∈ wr, s₀.heap.get? b = none := fun b hb => Ext.back F.lt.ext (W.new b hb)
  -- what the loop has done, seen from its start
  have up : ∀ h', ExtB κ.T (fun b => Loc env b ∨ b ∈ wr) s₂.heap h' → ExtB κ.T (Loc env) s.heap h' := fun h' e b o hb eb => by
    have nw : b ∉ wr := fun q => by rw [W.new b q] at eb; cases eb
    exact (((l2.toB (X := fun c => c ≠ b)).ext).trans (e.mono (Y := fun c => c ≠ b) fun c q hc => by rw [hc] at q; exact q.elim hb nw)) b o (fun q => q rfl) eb
  refine Classical.byContradiction fun nay => ?_
  obtain ⟨Iv, hIv, hIv'⟩ : ∃ Iv : Nat → Shared → Prop, (∀ k s', Iv k s' → ∃ j, j ≤ ds.length ∧ k = ds.length + 1 - j ∧ J j ∧ St j s'.heap ∧ Fr κ h V s₀ env (δf j) s' ∧ ExtB κ.T (fun b => Loc env b ∨ b ∈ wr) s₂.heap s'.heap) ∧ ∀ k s', (∃ j, j ≤ ds.length ∧ k = ds.length + 1 - j ∧ J j ∧ St j s'.heap ∧ Fr κ h V s₀ env (δf j) s' ∧ ExtB κ.T (fun b => Loc env b ∨ b ∈ wr) s₂.heap s'.heap) → Iv k s' := ⟨_, fun _ _ z => z, fun _ _ z => z⟩
  refine nay ?_
  clear nay
  refine codeAny_forLoop Iv ?_ (ds.length + 1)
    (hIv' _ _ ⟨0, Nat.zero_le _, rfl, j0, W.st, F2.weak h0, .refl _⟩) (ht I)
  refine fun kk s' hi => wpost fun Q1 E1 hQ1 _ => ?_
  refine Classical.byContradiction fun nay => ?_
  obtain ⟨j, hj, hkk, jj, hst, F', e'⟩ := hIv _ _ hi
  obtain ⟨ρ', G', H'⟩ := F'.ex
  refine nay ?_
  clear nay
  have kvw : ∀ h₁ : Heap, (∀ b o, b ∉ wr → s'.heap.get? b = some o → h₁.get? b = some o) → Kv V s'.heap h₁ := fun h₁ hk b o vb eb hd => by
    by_cases hb : b ∈ wr
    · exact (W.noq j _ hst b hb o eb hd).elim
    · exact hk b o hb eb
  have cmw : ∀ h₁ : Heap, (∀ b o, b ∉ wr → s'.heap.get? b = some o → h₁.get? b = some o) → Calm s'.heap h₁ := fun h₁ hk => Calm.but (fun b => b ∈ wr) hk fun b o vs hb e _ => W.solid _ _ hst b (W.w.sub _ hb) o e
  by_cases hlt : j < ds.length
  · refine wpAny_with_toks (n := 1) G'.tk (W.w.item j _ _ _ hlt hst fun v h₁ tk₁ hPv hst₁ hk₁ htk₁ => ?_)
    refine Classical.byContradiction fun nay => ?_
    obtain ⟨d, hd, dv⟩ := W.item j v hlt hPv
    refine nay ?_
    clear nay
    have G1 := G'.turn hk₁ new nl (cmw h₁ hk₁) htk₁
    have e1 : ExtB κ.T (fun b => Loc env b ∨ b ∈ wr) s₂.heap h₁ := e'.trans fun b o hb e => .inl (hk₁ b o (fun q => hb (.inr q)) e)
    -- the item's data
    have dv1 : Dn V h₁ v d := dv.kv fun b o vb eb hd' => by
      have nw : b ∉ wr := fun hb => W.noq 0 _ W.st b hb o eb hd'
      have nL : ¬ Loc env b := fun lb => by
        refine Classical.byContradiction fun nay => ?_
        obtain ⟨ρ2, G2, _⟩ := F2.ex
        obtain ⟨o', e2, _, n2⟩ := G2.locAt b lb
        refine nay ?_
        clear nay
        rw [eb] at e2; cases e2
        exact n2 hd'
      exact ExtB.get_data e1 (by rintro (z | z) <;> contradiction) eb fun vs' q' => hd'.ne q' rfl
    refine hQ1 _ _ (wpAny_assign_Name (G1.store hl' fun s2 G2 k2 e2 => ?_))
    clear hQ1
    have stx : ∀ s4 : Shared, ExtB κ.T (Loc env) h₁ s4.heap → St (j + 1) s4.heap := fun s4 e4 => W.w.frame _ _ _ hst₁ fun b hb o e => ExtB.get e4 (fun lb => by
      refine Classical.byContradiction fun nay => ?_
      obtain ⟨o', e5, n1, n2⟩ := G1.locAt b lb
      refine nay ?_
      clear nay
      rw [e] at e5; cases e5
      rcases W.shape _ _ hst₁ b hb o e with ⟨vs, z⟩ | ⟨vs, q, z⟩
      · exact n1 _ z
      · exact n2 (.inl ⟨_, _, z⟩)) e (W.solid _ _ hst₁ b hb o e).1
    have Fr2 : Fr κ h V s₀ env ((x, d) :: δf j) s2 := ⟨_, G2, fun y u e => by
      rw [List.lookup_cons] at e
      unfold put
      by_cases hy : (y == x) = true
      · rw [hy] at e
        rw [if_pos (by simpa using hy)]
        refine Classical.byContradiction fun nay => ?_
        cases e
        refine nay ?_
        clear nay
        exact ⟨v, rfl, dv1.kv k2⟩
      · simp only [hy] at e
        rw [if_neg (by simpa using hy)]
        refine Classical.byContradiction fun nay => ?_
        obtain ⟨w, p1, p2⟩ := H' y u e
        refine nay ?_
        clear nay
        exact ⟨w, p1, (p2.kv (kvw h₁ hk₁)).kv k2⟩⟩
    have e12 : ExtB κ.T (fun b => Loc env b ∨ b ∈ wr) s₂.heap s2.heap := e1.trans (e2.mono fun b q => .inl q)
    refine wpAny_mono (hb j d hd jj A s2 rm Fr2) (fun f s3 q => ?_) fun _ _ z => z.elim
    have e13 : ExtB κ.T (fun b => Loc env b ∨ b ∈ wr) s₂.heap s3.heap := e12.trans (q.2.mono fun b q => .inl q)
    have st3 : St (j + 1) s3.heap := stx s3 (ExtB.trans (X := Loc env) e2 q.2)
    cases f with
    | next => exact ⟨ds.length + 1 - (j + 1), hkk.symm ▸ turn_lt hlt, hIv' _ _ ⟨j + 1, hlt, rfl, q.1.1, st3, q.1.2, e13⟩⟩
    | cont => exact ⟨ds.length + 1 - (j + 1), hkk.symm ▸ turn_lt hlt, hIv' _ _ ⟨j + 1, hlt, rfl, q.1.1, st3, q.1.2, e13⟩⟩
    | brk => exact wpAny_mono (k A s3 rm q.1) (fun f s4 q' => ⟨q'.1, (up _ e13).trans q'.2⟩) fun _ _ f => f
    | ret v => exact ⟨q.1, up _ e13⟩
  · have hjn : j = ds.length := by omega
    subst hjn
    refine wpAny_with_toks (n := 1) G'.tk (W.w.done _ _ _ hst fun h₁ tk₁ hk₁ htk₁ => ?_)
    have G1 := G'.turn hk₁ new nl (cmw h₁ hk₁) htk₁
    have e1 : ExtB κ.T (fun b => Loc env b ∨ b ∈ wr) s₂.heap h₁ := e'.trans fun b o hb e => .inl (hk₁ b o (fun q => hb (.inr q)) e)
    have Fr1 : Fr κ h V s₀ env (δf ds.length) ⟨h₁, s'.gens, s'.drawn, tk₁, s'.os⟩ := ⟨_, G1, H'.kv (kvw h₁ hk₁)⟩
    refine hQ1 _ _ (wpAny_execs_nil ?_)
    exact wpAny_mono (k A _ rm (Fr1.weak (ho jj))) (fun f s4 q' => ⟨q'.1, (up _ e1).trans q'.2⟩) fun _ _ f => f
end Mine
end
section
open PySem PySem.W PySem.W.X PyProof.Rows PySem.Calls
set_option Elab.async false
set_option maxRecDepth 100000
namespace Mine
variable {κ : Cx} {n : Nat} {env : Env} {h : Heap} {A : Around} {s s₀ : Shared} {V : Addr → Prop} {ρ : Str → Option Value} {δ δ' : Del} {Q : Flow → Shared → Prop} {rest : List Stmt}

/-! ## comprehensions over frames that hold data -/
noncomputable def onlyLocal (scope : Scope) (x : Str) : Bool := scope.names.all fun z => (z.2 != .cell) && (z.2 != .local || (z.1 == x || z.1 == (".0" : Str)))
theorem onlyLocal_cell {scope : Scope} {x : Str} (k : onlyLocal scope x = true) : ∀ z ∈ scope.names, z.2 ≠ .cell := fun z hz e => by
  have := List.all_eq_true.mp k z hz
  rw [e] at this; simp at this
theorem mem_of_lookup' {α β : Type} [BEq α] [LawfulBEq α] {x : α} {v : β} : ∀ {l : List (α × β)}, l.lookup x = some v → (x, v) ∈ l
  | (y, u) :: r, e => by
    rw [List.lookup_cons] at e
    by_cases hx : (x == y) = true
    · rw [hx] at e; cases e
      rw [eq_of_beq hx]; exact List.mem_cons_self
    · simp only [hx] at e
      exact List.mem_cons_of_mem _ (mem_of_lookup' e)
theorem onlyLocal_look {scope : Scope} {x y : Str} (k : onlyLocal scope x = true) (e : scope.names.lookup y = some .local) : y = x ∨ y = (".0" : Str) := by
  have := List.all_eq_true.mp k _ (mem_of_lookup' e)
  simpa using this
theorem onlyLocal_names {scope : Scope} {x : Str} (k : onlyLocal scope x = true) (hx : scope.names.lookup x = some .local) (h0 : scope.names.lookup (".0" : Str) = some .local) : ∀ z ∈ scope.names, z.2 = .local → scope.names.lookup z.1 = some .local := fun z hz e => by
  have := List.all_eq_true.mp k z hz
  rw [e] at this
  have e2 : z.1 = x ∨ z.1 = (".0" : Str) := by simpa using this
  rcases e2 with e2 | e2
  · rw [e2]; exact hx
  · rw [e2]; exact h0
noncomputable def clB (env : Env) (cl : List (Str × Addr)) : Prop := ∀ y a, cl.lookup y = some a → env.cells.lookup y = some a ∧ env.kindOf y ≠ some .local
theorem Fd.comp {scope : Scope} {cl : List (Str × Addr)} {C : Addr} {x : Str} {v : Value} {d : Da} {h' : Heap} (H : Holds Tr h ρ δ) (k : Ext κ.T h h') (ho : onlyLocal scope x = true) (h0 : δ.lookup (".0" : Str) = none) (dv : Dn Tr h' v d) (F : Fm κ h' (compEnvC scope cl C env) (compRho scope x v ρ)) : Fd κ h' (compEnvC scope cl C env) ((x, d) :: δ) := by
  refine ⟨_, F, fun y u e => ?_⟩
  rw [List.lookup_cons] at e
  unfold compRho
  by_cases hy : (y == x) = true
  · rw [hy] at e; cases e
    rw [if_pos (by simpa using hy)]
    exact ⟨v, rfl, dv⟩
  · simp only [hy] at e
    have hyx : y ≠ x := by simpa using hy
    rw [if_neg hyx, if_neg (fun z => (onlyLocal_look ho z).elim hyx fun w => by rw [w, h0] at e; cases e)]
    obtain ⟨w, p, q⟩ := H y u e
    exact ⟨w, p, q.kv (Ext.kv k)⟩
/-- a comprehension of whatever form, its list as d -/
noncomputable def Core (κ : Cx) (n : Nat) (h : Heap) (env : Env) (δ : Del) (e : Expr) (scope : Scope) (iter : Expr) (d : Da) : Prop :=
  ∀ (A : Around) (s : Shared) (V : Addr → Prop) (ρ : Str → Option Value) (use : Option (Value → Sem Unit)) (Q : Value → Shared → Prop) (E : Value → Shared → Prop) (pos' : Pos), Fm κ h env ρ → Holds Tr h ρ δ → Rm n A → At κ h V s →
    (∀ D C s', Dn V s'.heap (.ref D) d → Lt κ.T NoX s s' → s.heap.get? C = none → (∃ m, s'.heap.Ns C m) → C ≠ D → At κ h V s' → compPost κ.M A E use Q (.ref D) C (.ok .next) s') →
    wpAny κ.M A (comprehension e scope env pos' (newList []) false (eval iter env) use) Q E s
theorem evd_of {elt tgt iter : Expr} {ifs : List Expr} {gs : List Comprehension} {scope : Scope} {pos : Pos} {d : Da} (F : Fd κ h env δ) (c : Core κ n h env δ (.ListComp elt (⟨tgt, iter, ifs, 0⟩ :: gs) scope pos) scope iter d) : Ev κ n env h (.ListComp elt (⟨tgt, iter, ifs, 0⟩ :: gs) scope pos) (Is d) := by
  obtain ⟨ρ, G, H⟩ := F.ex
  intro A s V rm y
  show wpAny κ.M A (eval _ env) _ _ s
  rw [eval_ListComp]
  exact c A s V ρ none (fun v s' => Is d V v s'.heap ∧ Lt κ.T NoX s s') (fun _ _ => False) _ G H rm y fun D C s' dat l hC ⟨m', hn⟩ hCD y' => ⟨m', hn, fun h' hs' => ⟨dat.kv (kv_ns hn hs'), l.goC hC hs' (calm_ns hn hs')⟩⟩
theorem core_comp {elt iter : Expr} {x : Str} {px : Pos} {ifs : List Expr} {scope : Scope} {pos : Pos} {cl : List (Str × Addr)} {ds : List Da} {keep : Da → Bool} {f : Da → Da}
    (hsrc : Src κ n env h iter ds) (hz : ds.length ≤ sizeLine) (hclos : closureFor scope env = pure cl) (hcl : clB env cl)
    (test : ∀ C (i : Nat) d h', Ext κ.T h h' → ds[i]? = some d → Fd κ h' (compEnvC scope cl C env) ((x, d) :: δ) → EvT κ n (compEnvC scope cl C env) h' ifs (keep d))
    (helt : ∀ C (i : Nat) d h', Ext κ.T h h' → ds[i]? = some d → Fd κ h' (compEnvC scope cl C env) ((x, d) :: δ) → keep d = true → Ev κ n (compEnvC scope cl C env) h' elt (Is (f d)))
    (hx : scope.names.lookup x = some .local := by rfl) (ho : onlyLocal scope x = true := by rfl) (h0 : δ.lookup (".0" : Str) = none := by rfl) (h1 : scope.names.lookup (".0" : Str) = some .local := by rfl) (hkind : scope.kind = .function := by rfl)
    (hs : ∀ x, foldedSetIterable iter env x = pure x := by intro _; rfl) : Core κ n h env δ (.ListComp elt [⟨.Name x px, iter, ifs, 0⟩] scope pos) scope iter (.list ((ds.filter keep).map f)) :=
  fun A s V ρ use Q E pos' G H rm y hend => comp_core G hsrc hz hclos hcl (onlyLocal_cell ho) hkind (onlyLocal_names ho hx h1) hx (fun C i v d h' k e dv F' => test C i d h' k e (Fd.comp H k ho h0 dv F')) (fun C i v d h' k e dv F' hk => helt C i d h' k e (Fd.comp H k ho h0 dv F') hk) hs rm y hend
/-- no test -/
theorem core_map {elt iter : Expr} {x : Str} {px : Pos} {scope : Scope} {pos : Pos} {cl : List (Str × Addr)} {ds : List Da} {f : Da → Da}
    (hsrc : Src κ n env h iter ds) (hz : ds.length ≤ sizeLine) (hclos : closureFor scope env = pure cl) (hcl : clB env cl)
    (helt : ∀ C (i : Nat) d h', Ext κ.T h h' → ds[i]? = some d → Fd κ h' (compEnvC scope cl C env) ((x, d) :: δ) → Ev κ n (compEnvC scope cl C env) h' elt (Is (f d)))
    (hx : scope.names.lookup x = some .local := by rfl) (ho : onlyLocal scope x = true := by rfl) (h0 : δ.lookup (".0" : Str) = none := by rfl) (h1 : scope.names.lookup (".0" : Str) = some .local := by rfl) (hkind : scope.kind = .function := by rfl)
    (hs : ∀ x, foldedSetIterable iter env x = pure x := by intro _; rfl) : Core κ n h env δ (.ListComp elt [⟨.Name x px, iter, [], 0⟩] scope pos) scope iter (.list (ds.map f)) := by
  have := core_comp (keep := fun _ => true) (f := f) (px := px) (pos := pos) (ifs := []) hsrc hz hclos hcl (fun C i d h' k e F' => evt_nil) (fun C i d h' k e F' _ => helt C i d h' k e F') hx ho h0 h1 hkind hs
  rw [List.filter_eq_self.mpr (fun _ _ => rfl)] at this
  exact this
theorem clB_nil {env : Env} : clB env [] := fun y a e => by simp at e
end Mine
end
section
open PySem PySem.W PySem.W.X PyProof.Rows PySem.Calls PySem.SeqAt
set_option Elab.async false
set_option maxRecDepth 100000
namespace Mine
variable {κ : Cx} {n : Nat} {env : Env} {h : Heap} {A : Around} {s s₀ : Shared} {V : Addr → Prop} {ρ : Str → Option Value} {δ δ' : Del} {Q : Flow → Shared → Prop} {rest : List Stmt}

/-! ## lists -/
noncomputable abbrev nums (ns : List Int) : List Da := ns.map Da.int
theorem intsAre_of {h : Heap} {vs : List Value} {ns : List Int} (d : Dns V h vs (nums ns)) : IntsAre vs ns :=
  Dns.mapInd Da.int (P := IntsAre) .nil (fun v vs i ns p ih => by cases p with | int _ t => exact .cons i t ih) d
/-- a list's slice, any -/
theorem lcut_core {value : Expr} {slice : Expr} {pos : Pos} {ds es : List Da} {lo hi st : Option Int} (a : Ev κ n env h value (Is (.list ds))) (hz : ds.length ≤ sizeLine) (h0 : st ≠ some 0)
    (hev : ∀ A s V, Rm n A → At κ h V s → wpAny κ.M A (eval slice env) (fun i s' => (∃ vl vu vs, i = .ref (s'.heap.objs.size - 1) ∧ s'.heap.IsSliceOf (s'.heap.objs.size - 1) vl vu vs ∧ IsPart vl lo ∧ IsPart vu hi ∧ IsPart vs st) ∧ Lt κ.T NoX s s') (fun _ _ => False) s)
    (hd : ∀ V h' (vs : List Value), Dns V h' vs ds → Dns V h' (slicePick vs.toArray lo hi st).toList es)
    (hs : ∀ o i, ∃ ops, subscripted slice false o i = operate ops (getItem o i)) : Ev κ n env h (.Subscript value slice pos) (Is (.list es)) := by
  intro A s V rm y
  refine Subscript_ (a.go rm y fun o s1 po l1 y1 => wpAny_mono (hev A s1 V rm y1) (fun i s2 q => ?_) fun _ _ f => f)
  refine Classical.byContradiction fun nay => ?_
  obtain ⟨⟨vl, vu, vs, rfl, sl, p1, p2, p3⟩, l2⟩ := q
  refine nay ?_
  clear nay
  have po' := Is.per (κ := κ) _ _ _ _ l2.ext po
  cases po' with
  | @list ax items _ va pl r =>
    have hsz : items.size ≤ sizeLine := by rw [← Array.length_toList, r.length]; exact hz
    obtain ⟨ops, hops⟩ := hs (.ref ax) (.ref (s2.heap.objs.size - 1))
    refine tail_any pl.isList.typeIs slot_list_getitem.lookup (wpAny_getItem_list_slice pl.isList sl p1 p2 p3 h0 ?_ hsz) hops
    have fr : s2.heap.get? s2.heap.objs.size = none := get_none_of_size (Nat.le_refl _)
    refine ⟨.list (y.vis _ (.inr (Ext.back (l1.trans l2).ext fr))) ⟨_, Heap.get?_push_size _ rfl⟩ ?_, (l1.trans l2).trans .newObj⟩
    exact (hd V s2.heap items.toList r).kv (Ext.kv (T := κ.T) (ExtB.push _))
theorem ev_lcut_to {value u : Expr} {p pos : Pos} {ds : List Da} {j : Nat} (a : Ev κ n env h value (Is (.list ds))) (c : Ev κ n env h u (Is (.int j))) (hz : ds.length ≤ sizeLine) : Ev κ n env h (.Subscript value (.Slice none (some u) none p) pos) (Is (.list (ds.take j))) := by
  refine lcut_core (lo := none) (hi := some (j : Int)) (st := none) a hz (by simp) (fun A s V rm y => ?_) (fun V h' vs r => ?_) (fun _ _ => ⟨_, rfl⟩)
  · refine wpAny_Slice (wpAny_evalPart_none (wpAny_evalPart_some (c.go rm y fun v s1 pv l1 y1 => wpAny_evalPart_none ?_)))
    refine Classical.byContradiction fun nay => ?_
    cases pv with | int _ t1 => ?_
    refine nay ?_
    clear nay
    refine ⟨⟨.none, .int j t1, .none, ?_, ?_, .none, .int _ _, .none⟩, l1.trans .newObj⟩
    · show _ = Value.ref ((s1.heap.push _).objs.size - 1)
      rw [Heap.size_push]; rfl
    · show (s1.heap.push _).IsSliceOf ((s1.heap.push _).objs.size - 1) _ _ _
      rw [Heap.size_push]; exact Heap.IsSliceOf.new _ _ _ _
  · rw [slicePick_upto']
    simpa using r.take j
theorem ev_lcut_from {value l : Expr} {p pos : Pos} {ds : List Da} {i : Nat} (a : Ev κ n env h value (Is (.list ds))) (c : Ev κ n env h l (Is (.int i))) (hz : ds.length ≤ sizeLine) : Ev κ n env h (.Subscript value (.Slice (some l) none none p) pos) (Is (.list (ds.drop i))) := by
  refine lcut_core (lo := some (i : Int)) (hi := none) (st := none) a hz (by simp) (fun A s V rm y => ?_) (fun V h' vs r => ?_) (fun _ _ => ⟨_, rfl⟩)
  · refine wpAny_Slice (wpAny_evalPart_some (c.go rm y fun v s1 pv l1 y1 => wpAny_evalPart_none (wpAny_evalPart_none ?_)))
    refine Classical.byContradiction fun nay => ?_
    cases pv with | int _ t1 => ?_
    refine nay ?_
    clear nay
    refine ⟨⟨.int i t1, .none, .none, ?_, ?_, .int _ _, .none, .none⟩, l1.trans .newObj⟩
    · show _ = Value.ref ((s1.heap.push _).objs.size - 1)
      rw [Heap.size_push]; rfl
    · show (s1.heap.push _).IsSliceOf ((s1.heap.push _).objs.size - 1) _ _ _
      rw [Heap.size_push]; exact Heap.IsSliceOf.new _ _ _ _
  · rw [slicePick_from']
    simpa using r.drop i
/-- by steps: numbers alone -/
theorem nums_of {h : Heap} : ∀ {vs : List Value} {ns : List Int}, IntsAre vs ns → Dns V h vs (nums ns)
  | _, _, .nil => .nil
  | _, _, .cons i t b => .cons (.int i t) (nums_of b)
theorem ev_lcut_step {value l st : Expr} {p pos : Pos} {ns : List Int} {i k : Int} (a : Ev κ n env h value (Is (.list (nums ns)))) (c : Ev κ n env h l (Is (.int i))) (d : Ev κ n env h st (Is (.int k))) (hk : k ≠ 0) (hz : ns.length ≤ sizeLine) :
    Ev κ n env h (.Subscript value (.Slice (some l) none (some st) p) pos) (Is (.list (nums (pickNums ns (some i) none (some k))))) := by
  refine lcut_core (lo := some i) (hi := none) (st := some k) a (by simpa using hz) (by simpa using hk) (fun A s V rm y => ?_) (fun V h' vs r => ?_) (fun _ _ => ⟨_, rfl⟩)
  · refine wpAny_Slice (wpAny_evalPart_some (c.go rm y fun v s1 pv l1 y1 => wpAny_evalPart_none (wpAny_evalPart_some (d.go rm y1 fun v2 s2 pv2 l2 y2 => ?_))))
    refine Classical.byContradiction fun nay => ?_
    cases pv with | int _ t1 => ?_
    cases pv2 with | int _ t2 => ?_
    refine nay ?_
    clear nay
    refine ⟨⟨.int i t1, .none, .int k t2, ?_, ?_, .int _ _, .none, .int _ _⟩, (l1.trans l2).trans .newObj⟩
    · show _ = Value.ref ((s2.heap.push _).objs.size - 1)
      rw [Heap.size_push]; rfl
    · show (s2.heap.push _).IsSliceOf ((s2.heap.push _).objs.size - 1) _ _ _
      rw [Heap.size_push]; exact Heap.IsSliceOf.new _ _ _ _
  · exact nums_of ((intsAre_of r).pick _ _ _)
theorem fun_sum {ns : List Int} : Fun κ n h (.builtin "sum") (One (Is (.list (nums ns)))) (Is (.int ns.sum)) := by
  rintro A s V vs rm y ⟨v, rfl, p⟩
  cases p with
  | @list ax items _ va pl r =>
    have hi := intsAre_of r
    obtain ⟨xs, hxs⟩ := hi.allInts.items
    have hxs' : items = intItems xs := by simpa using hxs
    refine sum_intListG rm.hd (hxs' ▸ pl.isList) fun h' tk t' hk => ⟨?_, .of_keep hk⟩
    have e : preSum (numAt xs) xs.size = ns.sum := by
      rw [preSum_eq, List.take_of_length_le (by simp), ← nums_intItems, ← hxs', hi.numsOf]
    rw [e]; exact .int _ _
theorem ev_ladd {l r : Expr} {pos : Pos} {ds es : List Da} (h1 : Ev κ n env h l (Is (.list ds))) (h2 : Ev κ n env h r (Is (.list es))) (hz : ds.length + es.length ≤ sizeLine) : Ev κ n env h (.BinOp l .Add r pos) (Is (.list (ds ++ es))) := by
  intro A s V rm y
  refine wpAny_BinOp (h1.go rm y fun a s1 pa l1 y1 => h2.go rm y1 fun b s2 pb l2 y2 => ?_)
  have pa' := Is.per (κ := κ) _ _ _ _ l2.ext pa
  cases pa' with
  | @list ax items _ va pl r =>
    cases pb with
    | @list bx items2 _ vb pl2 r2 =>
      refine Classical.byContradiction fun nay => ?_
      obtain ⟨q, e1⟩ := id pl
      obtain ⟨q2, e2⟩ := id pl2
      refine nay ?_
      clear nay
      have hs1 := r.length
      have hs2 := r2.length
      rw [Array.length_toList] at hs1 hs2
      have fr : s2.heap.get? s2.heap.objs.size = none := get_none_of_size (Nat.le_refl _)
      refine concat_meets pl.isList.typeIs pl2.isList.typeIs noFill_list_add seq_list_add PySem.F.slot_list_add PySem.F.entry_list_add (PySem.F.args_list_add_2 _ _) (list_addW ax bx items items2 q q2 none none #[] #[] (by omega)) ⟨e1, e2, ?_⟩
      refine ⟨.list (y.vis _ (.inr (Ext.back (l1.trans l2).ext fr))) ⟨_, Heap.get?_push_size _ rfl⟩ ?_, (l1.trans l2).trans .newObj⟩
      have := (r.append r2).kv (Ext.kv (V := V) (T := κ.T) (ExtB.push { cls := .type "list", data := .seq (items ++ items2) }))
      simpa using this
end Mine
end
section
open PySem PySem.W PySem.W.X PyProof.Rows PySem.Calls
set_option Elab.async false
set_option maxRecDepth 100000
namespace Mine
variable {κ : Cx} {n : Nat} {env : Env} {h : Heap} {A : Around} {s s₀ : Shared} {V : Addr → Prop} {ρ : Str → Option Value} {δ δ' : Del} {Q : Flow → Shared → Prop} {rest : List Stmt}

/-- x = [.. for ..], to a local -/
theorem ex_of {elt tgt iter : Expr} {ifs : List Expr} {gs : List Comprehension} {y : Str} {py : Pos} {scope : Scope} {pos spos : Pos} {d : Da}
    (c : ∀ h', Ext κ.T h h' → Fd κ h' env δ → Core κ n h' env δ (.ListComp elt (⟨tgt, iter, ifs, 0⟩ :: gs) scope pos) scope iter d)
    (k : Ex κ n h V s₀ env ((y, d) :: δ) rest Q)
    (hsw : swapsWith (.ListComp elt (⟨tgt, iter, ifs, 0⟩ :: gs) scope pos) (some (.Name y py)) spos.line env = pure true := by rfl)
    (hy : env.kindOf y = some .local := by rfl) : Ex κ n h V s₀ env δ (.Assign [.Name y py] (.ListComp elt (⟨tgt, iter, ifs, 0⟩ :: gs) scope pos) spos :: rest) Q := by
  intro A s rm F
  obtain ⟨ρ, G, H⟩ := F.ex
  have Hc : Holds Tr (cutH V s.heap) ρ δ := fun x d e => by obtain ⟨v, p, q⟩ := H x d e; exact ⟨v, p, q.cut.at fun _ _ _ => trivial⟩
  refine wpAny_execs_cons ?_
  rw [exec_Assign_Name_used _ _ _ _ hsw]
  refine wpAny_bind (wpAny_standAt (wpAny_bind ?_))
  show wpAny _ A (do let _ ← comprehension (.ListComp elt (⟨tgt, iter, ifs, 0⟩ :: gs) scope pos) scope env _ (newList []) false (eval iter env) (some (assign (.Name y py) env))) _ _ s
  refine wpAny_bind (wpAny_mono (c _ G.ext F.fd A s V ρ (some (assign (.Name y py) env)) (fun _ s' => wpAny κ.M A (execs rest env) (fun fl s'' => Q fl s'' ∧ ExtB κ.T (Loc env) s.heap s''.heap) (fun _ _ => False) s') (fun _ _ => False) _ G.fm Hc rm G.at ?_) (fun _ s' hq => wpAny_pure (wpAny_pure hq)) fun _ _ e => e)
  intro D C s1 dat l1 hC hnC hCD y1
  obtain ⟨m1, hnC⟩ := hnC
  have G1 := G.on l1 y1.tk
  show wpAny _ A (assign (.Name y py) env (.ref D)) _ _ _
  refine wpAny_assign_Name (G1.store (.inl hy) fun s2 G2 k2 e2 => ?_)
  have nL : ¬ Loc env C := fun lc => by
    obtain ⟨o, e, _⟩ := G.locAt C lc
    rw [hC] at e; cases e
  have hnC2 : s2.heap.Ns C m1 := ns_extB e2 nL hnC
  refine ⟨m1, hnC2, fun h' hs' => ?_⟩
  have hk' : ∀ b o, b ∉ [C] → s2.heap.get? b = some o → h'.get? b = some o := fun b o hb e => hs'.extBut b o (fun z => hb (by simp [z])) e
  have G3 := G2.turn (wr := [C]) hk' (fun b hb => by rw [List.mem_singleton.mp hb]; exact Ext.back G.l.ext hC) (fun b hb => by rw [List.mem_singleton.mp hb]; exact nL) (calm_ns hnC2 hs') G2.tk
  have kv3 : Kv V s2.heap h' := kv_ns hnC2 hs'
  have e13 : ExtB κ.T (Loc env) s.heap h' := fun b o hb eb => by
    have nc : b ≠ C := fun z => by rw [z, hC] at eb; cases eb
    exact (((l1.toB (X := fun c => c ≠ b)).ext.trans (e2.mono (Y := fun c => c ≠ b) fun c q hc => by rw [hc] at q; exact hb q)).trans (ExtB.sameBut (X := fun c => c ≠ b) hs' (fun z => nc z.symm))) b o (fun q => q rfl) eb
  refine wpAny_mono (k A _ rm ⟨_, G3, fun z u e => ?_⟩) (fun fl s' q => ⟨q.1, e13.trans q.2⟩) fun _ _ f => f
  rw [List.lookup_cons] at e
  unfold put
  by_cases hz' : (z == y) = true
  · rw [hz'] at e
    rw [if_pos (by simpa using hz')]
    cases e
    exact ⟨_, rfl, (dat.kv k2).kv kv3⟩
  · simp only [hz'] at e
    rw [if_neg (by simpa using hz')]
    obtain ⟨w, p1, p2⟩ := H z u e
    exact ⟨w, p1, ((p2.kv (Ext.kv l1.ext)).kv k2).kv kv3⟩
end Mine
end
section
open PySem PySem.W PySem.W.X PyProof.Rows PySem.Calls
set_option Elab.async false
set_option maxRecDepth 100000
namespace Mine
variable {κ : Cx} {n : Nat} {env : Env} {h : Heap} {A : Around} {s s₀ : Shared} {V : Addr → Prop} {ρ : Str → Option Value} {δ δ' : Del} {Q : Flow → Shared → Prop} {rest : List Stmt}
/-! ## iter and next -/
theorem kind_iter : builtinKind "iter" = none := by kernel_rfl
theorem plain_iter : plainId "iter" = true := by decide +kernel
theorem entry_iter : entryFor table "iter" = some Builtin.«iter» := entryFor_of_tree (by kernel_rfl)
theorem args_iter1 (a : Value) : argsOk "iter" ⟨[a], []⟩ := by unfold argsOk; kernel_rfl
theorem call_iter {prog : Program} {w : World} {E : Value → Shared → Prop} {x : Value} {Q : Value → Shared → Prop} (h : wpAny (model prog w) A.in1 (pyIter x) Q E s) : wpAny (model prog w) A (call (.builtin "iter") [x]) Q E s := by
  refine call_function_tree kind_iter plain_iter entry_iter (args_iter1 _) ?_
  show wpAny _ _ (do ret (← pyIter x)) _ _ s
  exact wpAny_bind (wpAny_mono h (fun v s' q => wpAny_pure q) fun _ _ e => e)
theorem kind_next : builtinKind "next" = none := by kernel_rfl
theorem plain_next : plainId "next" = true := by decide +kernel
theorem entry_next' : entryFor table "next" = some Builtin.«next» := entryFor_of_tree (by kernel_rfl)
theorem args_next1 (a : Value) : argsOk "next" ⟨[a], []⟩ := by unfold argsOk; kernel_rfl
theorem call_next_list {prog : Program} {w : World} {E : Value → Shared → Prop} {it l : Addr} {i : Nat} {items : Array Value} {x : Value} {Q : Value → Shared → Prop} (hit : s.heap.IsListIter it l i) (hl : s.heap.IsList l items) (hx : items[i]? = some x)
    (hQ : ∀ h', h'.IsListIter it l (i + 1) → Heap.SameBut it s.heap h' → Q x { s with heap := h' }) : wpAny (model prog w) A (call (.builtin "next") [.ref it]) Q E s := by
  refine call_function_tree kind_next plain_next entry_next' (args_next1 _) ?_
  refine Classical.byContradiction fun nay => ?_
  obtain ⟨o, ho, hc, hd⟩ := id hit
  obtain ⟨ol, hol, _, nl, hdl⟩ := hl
  refine nay ?_
  clear nay
  refine wpAny_bind (wpAny_of_eq (a := [.ref it]) rfl ?_)
  refine wpAny_bind (wpAny_specialOf hit.typeIs slot_listiter_next.lookup ?_)
  refine if_not' rfl ?_
  refine wpAny_bind (wpAny_callSpecial?_slot (name := Str.ofString "__next__") hit.typeIs slot_listiter_next (wpAny_call_entry slot_listiter_next hit.typeIs entry_listiter_next ?_ (args_listiter_next _)))
  refine wpAny_bind (m := field (.ref it) 0) (wpAny_field ho hd (x := .ref l) rfl ?_)
  refine if_not' rfl ?_
  refine wpAny_bind (m := field (.ref it) 1) (wpAny_field ho hd (x := .int i 0) rfl ?_)
  refine wpAny_bind (wpAny_seqItems hol hdl ?_)
  have hx' : items[(Int.toNat (i : Int))]? = some x := by simpa using hx
  simp only [hx']
  refine wpAny_bind (wpAny_setField ho hd (by simp) (wpAny_pure ⟨x, rfl, wpAny_pure (hQ _ ?_ (Heap.SameBut.update ..))⟩))
  exact ⟨_, Heap.get?_update_self _ ho (Obj.isFreed_of_fields (Obj.data_mapFields hd _)), (Obj.cls_mapFields ..).trans hc, by rw [Obj.data_mapFields hd]; simp [rawInt]⟩
end Mine
end
section
open PySem PySem.W PySem.W.X PyProof.Rows PySem.Calls
set_option Elab.async false
set_option maxRecDepth 100000
namespace Mine
variable {κ : Cx} {n : Nat} {env : Env} {h : Heap} {A : Around} {s s₀ : Shared} {V : Addr → Prop} {ρ : Str → Option Value} {δ δ' : Del} {Q : Flow → Shared → Prop} {rest : List Stmt}
/-- for over a list's iterator that the call itself has made -/
theorem for_it {x it : Str} {p p2 pos : Pos} {body : List Stmt} {ds : List Da} {I ax : Addr} {items : Array Value} {j0 : Nat} (J : Nat → Prop) (δf : Nat → Del)
    (rm : Rm n A) (F : Fr κ h V s₀ env δ s) (hit : δ.lookup it = some (.val (.ref I))) (hli : s.heap.IsListIter I ax j0) (hpl : s.heap.PlainList ax items) (hds : Dns V s.heap items.toList ds) (newI : s₀.heap.get? I = none) (hj0 : j0 ≤ ds.length)
    (hb : ∀ i d, ds[i]? = some d → J i → Ex κ n h V s₀ env ((x, d) :: δf i) body (fl κ h V s₀ env J δf δ' i Q))
    (ho : J ds.length → Sub δ' (δf ds.length)) (jj0 : J j0) (h0 : Sub (δf j0) δ) (k : Ex κ n h V s₀ env δ' rest Q)
    (hl : (env.kindOf x == some .local || (env.kindOf x == some .cell && (env.cells.lookup x).isSome)) = true := by rfl) (hlit : liesB env it = true := by rfl)
    (hs : ∀ x, foldedSetIterable (.Name it p2) env x = pure x := by intro _; rfl) (ht : ∀ I v, letOwnedTupleGo (.Name x p) (.ref I) v = pure () := by intro _ _; rfl) (hdb : (it == ("__debug__" : Str)) = false := by decide) :
    wpAny κ.M A (execs (.For (.Name x p) (.Name it p2) body [] pos :: rest) env) Q (fun _ _ => False) s := by
  have hl' : env.kindOf x = some .local ∨ (env.kindOf x = some .cell ∧ (env.cells.lookup x).isSome = true) := by simpa using hl
  refine wpAny_execs_cons (wpAny_For ((ev_loc (n := n) F.fd hit hlit hdb).go rm F.at fun v s₂ pv l2 y2 => ?_) hs)
  refine Classical.byContradiction fun nay => ?_
  cases pv
  refine nay ?_
  clear nay
  have hli2 : s₂.heap.IsListIter I ax j0 := by obtain ⟨o, e, c, d⟩ := hli; exact ⟨o, Ext.get l2.ext e (by rw [c]; exact fun z => by cases z), c, d⟩
  have hpl2 : s₂.heap.PlainList ax items := (Ext.kv (V := Tr) l2.ext).plain trivial hpl
  refine wpAny_pyIter_listiter hli2 ?_
  have F2 := F.on l2 y2.tk
  have hds2 := hds.kv (Ext.kv l2.ext)
  have hlen : ds.length = items.size := by rw [← hds.length, Array.length_toList]
  have hIax : ax ≠ I := fun q => by
    refine Classical.byContradiction fun nay => ?_
    obtain ⟨o, e, c, _⟩ := hli2
    obtain ⟨qq, e2⟩ := hpl2
    refine nay ?_
    clear nay
    rw [q, e] at e2; cases e2; exact absurd (show Value.type "list" = Value.type "list_iterator" from c) (by decide)
  have W := Walks.list (prog := κ.prog) (w := κ.w) (A := A) rm.hd I ax hIax items
  have nl : ∀ b ∈ [I], ¬ Loc env b := fun b hb lb => by
    rw [List.mem_singleton.mp hb] at lb
    refine Classical.byContradiction fun nay => ?_
    obtain ⟨ρ, G, _⟩ := F2.ex
    obtain ⟨o, e, n1, _⟩ := G.locAt I lb
    obtain ⟨o', e', _, d'⟩ := hli2
    refine nay ?_
    clear nay
    rw [e] at e'; cases e'; exact n1 _ d'
  have nax : ¬ Loc env ax := fun lb => by
    refine Classical.byContradiction fun nay => ?_
    obtain ⟨ρ, G, _⟩ := F2.ex
    obtain ⟨o, e, _, n2⟩ := G.locAt ax lb
    obtain ⟨q, e'⟩ := hpl2
    refine nay ?_
    clear nay
    rw [e] at e'; cases e'; exact n2 (.inl ⟨_, _, rfl⟩)
  have new : ∀ b ∈ [I], s₀.heap.get? b = none := fun b hb => by rw [List.mem_singleton.mp hb]; exact newI
  refine Classical.byContradiction fun nay => ?_
  obtain ⟨Iv, hIv, hIv'⟩ : ∃ Iv : Nat → Shared → Prop, (∀ k s', Iv k s' → ∃ j, j0 ≤ j ∧ j ≤ ds.length ∧ k = ds.length + 1 - j ∧ J j ∧ (s'.heap.IsListIter I ax j ∧ s'.heap.IsList ax items) ∧ Fr κ h V s₀ env (δf j) s' ∧ ExtB κ.T (fun b => Loc env b ∨ b ∈ [I]) s₂.heap s'.heap) ∧ ∀ k s', (∃ j, j0 ≤ j ∧ j ≤ ds.length ∧ k = ds.length + 1 - j ∧ J j ∧ (s'.heap.IsListIter I ax j ∧ s'.heap.IsList ax items) ∧ Fr κ h V s₀ env (δf j) s' ∧ ExtB κ.T (fun b => Loc env b ∨ b ∈ [I]) s₂.heap s'.heap) → Iv k s' := ⟨_, fun _ _ z => z, fun _ _ z => z⟩
  refine nay ?_
  clear nay
  refine codeAny_forLoop Iv ?_ (ds.length + 1 - j0)
    (hIv' _ _ ⟨j0, Nat.le_refl _, hj0, rfl, jj0, ⟨hli2, hpl2.isList⟩, F2.weak h0, .refl _⟩) (ht I)
  refine fun kk s' hi => wpost fun Q1 E1 hQ1 _ => ?_
  refine Classical.byContradiction fun nay => ?_
  obtain ⟨j, hj0', hj, hkk, jj, hst, F', e'⟩ := hIv _ _ hi
  obtain ⟨ρ', G', H'⟩ := F'.ex
  refine nay ?_
  clear nay
  have kvw : ∀ h₁ : Heap, (∀ b o, b ∉ [I] → s'.heap.get? b = some o → h₁.get? b = some o) → Kv V s'.heap h₁ := fun h₁ hk b o vb eb hd => by
    by_cases hb : b ∈ [I]
    · rw [List.mem_singleton.mp hb] at eb
      refine Classical.byContradiction fun nay => ?_
      obtain ⟨⟨o', e2, _, d2⟩, _⟩ := hst
      refine nay ?_
      clear nay
      rw [eb] at e2; cases e2; exact (hd.ne d2 rfl).elim
    · exact hk b o hb eb
  have cmw : ∀ h₁ : Heap, (∀ b o, b ∉ [I] → s'.heap.get? b = some o → h₁.get? b = some o) → Calm s'.heap h₁ := fun h₁ hk => Calm.but (fun b => b ∈ [I]) hk fun b o vs hb e _ => by
    rw [List.mem_singleton.mp hb] at e
    refine Classical.byContradiction fun nay => ?_
    obtain ⟨⟨o', e2, c2, _⟩, _⟩ := hst
    refine nay ?_
    clear nay
    rw [e] at e2; cases e2; rw [c2]
    exact ⟨fun q => (by cases q), by decide⟩
  by_cases hlt : j < ds.length
  · refine wpAny_with_toks (n := 1) G'.tk (W.item j _ _ _ (by omega) hst fun v h₁ tk₁ hPv hst₁ hk₁ htk₁ => ?_)
    refine Classical.byContradiction fun nay => ?_
    obtain ⟨d, hd, dv⟩ := hds2.get' (i := j) (v := v) (by simpa using hPv)
    refine nay ?_
    clear nay
    have G1 := G'.turn hk₁ new nl (cmw h₁ hk₁) htk₁
    have e1 : ExtB κ.T (fun b => Loc env b ∨ b ∈ [I]) s₂.heap h₁ := e'.trans fun b o hb e => .inl (hk₁ b o (fun q => hb (.inr q)) e)
    have dv1 : Dn V h₁ v d := dv.kv fun b o vb eb hd' => by
      have nw : b ∉ [I] := fun hb => by
        rw [List.mem_singleton.mp hb] at eb
        refine Classical.byContradiction fun nay => ?_
        obtain ⟨o', e2, _, d2⟩ := hli2
        refine nay ?_
        clear nay
        rw [eb] at e2; cases e2; exact hd'.ne d2 rfl
      have nL : ¬ Loc env b := fun lb => by
        refine Classical.byContradiction fun nay => ?_
        obtain ⟨ρ2, G2, _⟩ := F2.ex
        obtain ⟨o', e2, _, n2⟩ := G2.locAt b lb
        refine nay ?_
        clear nay
        rw [eb] at e2; cases e2
        exact n2 hd'
      exact ExtB.get_data e1 (by rintro (z | z) <;> contradiction) eb fun vs' q' => hd'.ne q' rfl
    refine hQ1 _ _ (wpAny_assign_Name (G1.store hl' fun s2 G2 k2 e2 => ?_))
    clear hQ1
    have stx : ∀ s4 : Shared, ExtB κ.T (Loc env) h₁ s4.heap → s4.heap.IsListIter I ax (j + 1) ∧ s4.heap.IsList ax items := fun s4 e4 => by
      refine Classical.byContradiction fun nay => ?_
      obtain ⟨⟨o, e, c, d⟩, ⟨o2, e2, c2, q2, d2⟩⟩ := hst₁
      refine nay ?_
      clear nay
      exact ⟨⟨o, ExtB.get e4 (nl I (by simp)) e (by rw [c]; exact fun z => by cases z), c, d⟩, ⟨o2, ExtB.get e4 nax e2 (by rw [c2]; exact fun z => by cases z), c2, q2, d2⟩⟩
    have Fr2 : Fr κ h V s₀ env ((x, d) :: δf j) s2 := ⟨_, G2, fun y u e => by
      rw [List.lookup_cons] at e
      unfold put
      by_cases hy : (y == x) = true
      · rw [hy] at e
        rw [if_pos (by simpa using hy)]
        refine Classical.byContradiction fun nay => ?_
        cases e
        refine nay ?_
        clear nay
        exact ⟨v, rfl, dv1.kv k2⟩
      · simp only [hy] at e
        rw [if_neg (by simpa using hy)]
        refine Classical.byContradiction fun nay => ?_
        obtain ⟨w, p1, p2⟩ := H' y u e
        refine nay ?_
        clear nay
        exact ⟨w, p1, (p2.kv (kvw h₁ hk₁)).kv k2⟩⟩
    have e12 : ExtB κ.T (fun b => Loc env b ∨ b ∈ [I]) s₂.heap s2.heap := e1.trans (e2.mono fun b q => .inl q)
    refine wpAny_mono (hb j d hd jj A s2 rm Fr2) (fun f s3 q => ?_) fun _ _ z => z.elim
    have e13 : ExtB κ.T (fun b => Loc env b ∨ b ∈ [I]) s₂.heap s3.heap := e12.trans (q.2.mono fun b q => .inl q)
    have st3 := stx s3 (ExtB.trans (X := Loc env) e2 q.2)
    cases f with
    | next => exact ⟨ds.length + 1 - (j + 1), hkk.symm ▸ turn_lt hlt, hIv' _ _ ⟨j + 1, Nat.le_succ_of_le hj0', hlt, rfl, q.1.1, st3, q.1.2, e13⟩⟩
    | cont => exact ⟨ds.length + 1 - (j + 1), hkk.symm ▸ turn_lt hlt, hIv' _ _ ⟨j + 1, Nat.le_succ_of_le hj0', hlt, rfl, q.1.1, st3, q.1.2, e13⟩⟩
    | brk => exact wpAny_mono (k A s3 rm q.1) (fun f s4 q' => q'.1) fun _ _ f => f
    | ret v => exact q.1
  · have hjn : j = ds.length := by omega
    subst hjn
    refine wpAny_with_toks (n := 1) G'.tk (W.done _ _ _ (by rw [← hlen]; exact hst) fun h₁ tk₁ hk₁ htk₁ => ?_)
    have G1 := G'.turn hk₁ new nl (cmw h₁ hk₁) htk₁
    have Fr1 : Fr κ h V s₀ env (δf ds.length) ⟨h₁, s'.gens, s'.drawn, tk₁, s'.os⟩ := ⟨_, G1, H'.kv (kvw h₁ hk₁)⟩
    refine hQ1 _ _ (wpAny_execs_nil ?_)
    exact wpAny_mono (k A _ rm (Fr1.weak (ho jj))) (fun f s4 q' => q'.1) fun _ _ f => f
end Mine
end
section
open PySem PySem.W PySem.W.X PyProof.Rows PySem.Calls
set_option Elab.async false
set_option maxRecDepth 100000
namespace Mine
variable {κ : Cx} {n : Nat} {env : Env} {h : Heap} {A : Around} {s s₀ : Shared} {V : Addr → Prop} {ρ : Str → Option Value} {δ δ' : Del} {Q : Flow → Shared → Prop} {rest : List Stmt}
/-! ## a def's call, its arguments bound by any road -/
theorem fun_defW {f : Addr} {fd : FuncData} {body : List Stmt} {Pa : (Addr → Prop) → List Value → Heap → Prop} {P : Pr} (b : Base κ h) (fa : FnAt h f fd) (hb : fd.body = .stmts body) (hclo : fd.closure = []) (hg : fd.globals = mainGlobals) (hbl : fd.builtins = builtinsNs)
    (hco : fd.scope.isCoroutine = false) (hge : fd.scope.isGenerator = false) (hk : fd.scope.kind = .function)
    (hbody : ∀ V s₀ vs, At κ h V s₀ → Pa V vs s₀.heap → ∃ binds, (∀ (A : Around) (Q : List (Str × Value) → Shared → Prop) (E : Value → Shared → Prop), Q binds s₀ → wpAny κ.M A (bindArgs fd ⟨vs, []⟩) Q E s₀) ∧
      (∀ x ∈ binds, fd.scope.names.lookup x.1 = some .local ∨ (fd.scope.names.lookup x.1 = some .cell ∧ ((cellsFrom (s₀.heap.objs.size + 1) fd.scope.names []).lookup x.1).isSome = true)) ∧ Body κ n h f fd body binds V s₀ P) :
    Fun κ (n + 1) h (.ref f) Pa P := by
  intro A s V vs rm y pa
  refine Classical.byContradiction fun nay => ?_
  obtain ⟨binds, hbind, hkind, hB⟩ := hbody V s vs y pa
  refine nay ?_
  clear nay
  have fa' := fa.ext y.ext
  refine Classical.byContradiction fun nay => ?_
  obtain ⟨o, ho, hd⟩ := fa'.at_
  refine nay ?_
  clear nay
  refine wpAny_call (codeAny_call_function rm.depth ho hd hco hge hb fa'.code.toRec ?_)
  refine hbind _ _ _ ?_
  rw [hclo]
  refine wpAny_with_toks (n := 1) y.tk (wpAny_newFunctionEnv_cells hk hkind fun env henv s' C tk => ?_)
  obtain rfl : env = callEnvC fd s.heap.objs.size f := henv
  refine Classical.byContradiction fun nay => ?_
  obtain ⟨h₁, tk₁, rfl, hkeep⟩ := C.done
  refine nay ?_
  clear nay
  have l : Lt κ.T NoX s ⟨h₁, s.gens, s.drawn, tk₁, s.os⟩ := .of_keep hkeep
  have freshL : s.heap.get? s.heap.objs.size = none := get_none_of_size (Nat.le_refl _)
  have vL : V s.heap.objs.size := y.vis _ (.inr freshL)
  have freshC : ∀ x a, (callEnvC fd s.heap.objs.size f).cells.lookup x = some a → s.heap.get? a = none := fun x a e =>
    get_none_of_size (Nat.le_of_lt (C.above x a (mem_of_lookup e)))
  have F : In κ h V s (callEnvC fd s.heap.objs.size f) (fun x => binds.reverse.lookup x) ⟨h₁, s.gens, s.drawn, tk₁, s.os⟩ := by
    refine ⟨b, y, l, tk, ⟨b.ext (cutH_of (y.ext.trans l.ext) fun a e => y.vis a (.inl e)), hk, hg, hbl, ⟨_, C.toInCall.ns.at' fun o e => (cutH_yes (h := h₁) vL).trans e, fun x v hx hv => bindL_of binds _ x v hx (by rw [hv]; rfl)⟩, fun x a e => ?_⟩, freshL, freshC,
      fun x y a e1 e2 => name_of_addr C.apart (mem_of_lookup e1) (mem_of_lookup e2)⟩
    refine Classical.byContradiction fun nay => ?_
    obtain ⟨o, eo, hdo⟩ := C.cell x a e
    refine nay ?_
    clear nay
    have va : V a := y.vis _ (.inr (freshC x a e))
    exact ⟨_, ⟨o, (cutH_yes (h := h₁) va).trans eo, hdo⟩, fun v hx hv => bindC_of binds _ x v hx (by rw [hv]; rfl)⟩
  refine ⟨(b.ext (y.ext.trans l.ext)).lim, codeAny_func ?_⟩
  refine wpAny_mono (hB _ _ rm.deeper F (fun b o _ e q => hkeep b o e)) (fun fl s' q => ?_) fun _ _ z => z.elim
  refine Classical.byContradiction fun nay => ?_
  obtain ⟨⟨v, rfl, p⟩, l'⟩ := q
  refine nay ?_
  clear nay
  exact ⟨p, l'⟩
/-- names bound to data (the given ones and defaults), the body by any road -/
theorem fun_dataW {f : Addr} {fd : FuncData} {body : List Stmt} {xs : List Str} {ds es : List Da} {P : Pr} (b : Base κ h) (fa : FnAt h f fd) (hb : fd.body = .stmts body) (hclo : fd.closure = []) (hg : fd.globals = mainGlobals) (hbl : fd.builtins = builtinsNs)
    (hco : fd.scope.isCoroutine = false) (hge : fd.scope.isGenerator = false) (hk : fd.scope.kind = .function)
    (hbind : ∀ V s₀ vs, At κ h V s₀ → Dns V s₀.heap vs ds → ∃ us, Dns V s₀.heap us es ∧ us.length = xs.length ∧ ∀ (A : Around) (Q : List (Str × Value) → Shared → Prop) (E : Value → Shared → Prop), Q (xs.zip us) s₀ → wpAny κ.M A (bindArgs fd ⟨vs, []⟩) Q E s₀)
    (hnd : ∀ us : List Value, us.length = xs.length → ∀ x, (xs.zip us).reverse.lookup x = (xs.zip us).lookup x)
    (hkind : ∀ x ∈ xs, ∀ L, (fd.scope.names.lookup x == some .local || (fd.scope.names.lookup x == some .cell && ((cellsFrom L fd.scope.names []).lookup x).isSome)) = true)
    (hbody : ∀ V s₀, At κ h V s₀ → ∀ A s, Rm n A → Fr κ h V s₀ (callEnvC fd s₀.heap.objs.size f) (xs.zip es) s → wpAny κ.M A (execs body (callEnvC fd s₀.heap.objs.size f)) (rt κ V s₀ P) (fun _ _ => False) s) :
    Fun κ (n + 1) h (.ref f) (Iss ds) P := by
  refine fun_defW b fa hb hclo hg hbl hco hge hk fun V s₀ vs y pa => ?_
  refine Classical.byContradiction fun nay => ?_
  obtain ⟨us, du, hu, hbi⟩ := hbind V s₀ vs y pa
  refine nay ?_
  clear nay
  refine ⟨_, hbi, fun x hx => ?_, fun A s rm F k => ?_⟩
  · have := hkind x.1 (List.of_mem_zip hx).1 (s₀.heap.objs.size + 1)
    simpa using this
  · rw [show (fun x => (xs.zip us).reverse.lookup x) = fun x => (xs.zip us).lookup x from funext (hnd us hu)] at F
    exact hbody V s₀ y A s rm ⟨_, F, (holds_zip du).kv k⟩
theorem nd3 {x y z : Str} (h1 : (x == y) = false) (h2 : (x == z) = false) (h3 : (y == z) = false) : ∀ vs : List Value, vs.length = [x, y, z].length → ∀ u, ([x, y, z].zip vs).reverse.lookup u = ([x, y, z].zip vs).lookup u
  | vs, hv, u => by
    refine Classical.byContradiction fun nay => ?_
    obtain ⟨a, b, c, rfl⟩ := len3 hv
    refine nay ?_
    clear nay
    have n1 : x ≠ y := by simpa using h1
    have n2 : x ≠ z := by simpa using h2
    have n3 : y ≠ z := by simpa using h3
    show List.lookup u [(z, c), (y, b), (x, a)] = List.lookup u [(x, a), (y, b), (z, c)]
    simp only [List.lookup_cons]
    cases k1 : (u == x) <;> cases k2 : (u == y) <;> cases k3 : (u == z) <;> first
      | rfl
      | exact absurd ((by simpa using k1 : u = x).symm.trans (by simpa using k2 : u = y)) n1
      | exact absurd ((by simpa using k1 : u = x).symm.trans (by simpa using k3 : u = z)) n2
      | exact absurd ((by simpa using k2 : u = y).symm.trans (by simpa using k3 : u = z)) n3
end Mine
end
section
open PySem PySem.W PySem.W.X PyProof.Rows PySem.Calls
set_option Elab.async false
set_option maxRecDepth 100000
namespace Mine
variable {κ : Cx} {n : Nat} {env : Env} {h : Heap} {A : Around} {s s₀ : Shared} {V : Addr → Prop} {ρ : Str → Option Value} {δ δ' : Del}

/-! ## a comprehension whose target an inner block reads -/
theorem newEnv_cell {M : Model} {E : Value → Shared → Prop} {scope : Scope} {globals : Addr} {cl : List (Str × Addr)} {qual x : Str} {Q : Env → Shared → Prop} (hcf : ∀ L, cellsFrom L scope.names cl = (x, L) :: cl) (hpc : ∀ h : Heap, pushCells h scope.names = h.push { cls := .type "cell", data := .cell none })
    (hQ : Q { scope, locals := s.heap.objs.size, globals, cells := (x, s.heap.objs.size + 1) :: cl, qual, func := none, code := env.code, frame := env.frame, builtins := env.builtins } { s with heap := (s.heap.push { cls := .type "dict", data := .dict #[] }).push { cls := .type "cell", data := .cell none } }) :
    wpAny M A (newFunctionEnv scope globals cl [] qual none .none (some env)) Q E s := by
  simp only [newFunctionEnv, Option.isSome_some, if_true]
  refine wpAny_bind (wpAny_alloc ?_)
  refine wpAny_bind (wpAny_layCells _ (fun name kind cells => by cases hkc : kind == NameKind.cell <;> simp [hkc]) _ _ _ _ ?_)
  rw [show ({ s with heap := s.heap.push { cls := .type "dict", data := .dict #[] } } : Shared).heap.objs.size = s.heap.objs.size + 1 from Heap.size_push .., hcf, hpc]
  rw [List.forIn_nil]
  exact wpAny_bind (wpAny_pure (wpAny_pure hQ))
/-- the same objects, but at two places -/
theorem Fm.compC {m' : Str → Option Value} {h' : Heap} {scope : Scope} {cl : List (Str × Addr)} {C c : Addr} {x : Str} {v : Value} (F : Fm κ h env ρ) (k : Ext κ.T h h') (hkind : scope.kind = .function) (hcl : ∀ y a, cl.lookup y = some a → env.cells.lookup y = some a ∧ env.kindOf y ≠ some .local)
    (hx : scope.names.lookup x ≠ some .local) (hn : h'.Ns C m') (hc : h'.IsCell c (some v)) : Fm κ h' (compEnvC scope ((x, c) :: cl) C env) (compRho scope x v ρ) := by
  refine ⟨F.base.ext k, hkind, F.glob, F.blt, ⟨m', hn, fun y u hk hu => ?_⟩, fun y a e => ?_⟩
  · unfold compRho at hu
    by_cases hy : y = x
    · subst hy; exact absurd (lookup_relabel hk) hx
    · rw [if_neg hy, if_pos (lookup_relabel hk)] at hu; cases hu
  · by_cases hy : y = x
    · subst hy
      have ea : c = a := by
        have : List.lookup y ((y, c) :: cl) = some a := e
        rw [List.lookup_cons_self] at this
        exact Option.some.inj this
      subst ea
      refine ⟨_, hc, fun u' _ hu => ?_⟩
      unfold compRho at hu
      rw [if_pos rfl] at hu; exact hu
    · have e0 : List.lookup y ((x, c) :: cl) = some a := e
      rw [List.lookup_cons, show (y == x) = false by simpa using hy] at e0
      obtain ⟨e', hk⟩ := hcl y a e0
      obtain ⟨u, p, q⟩ := F.cl y a e'
      refine ⟨u, cell_ext k p, fun u' hk' hu => q u' hk ?_⟩
      unfold compRho at hu
      rw [if_neg hy] at hu
      by_cases hl : scope.names.lookup y = some .local
      · rw [if_pos hl] at hu; cases hu
      · rw [if_neg hl] at hu; exact hu
theorem comp_coreC {elt iter : Expr} {x : Str} {px : Pos} {ifs : List Expr} {scope : Scope} {pos pos' : Pos} {cl : List (Str × Addr)} {ds : List Da} {keep : Da → Bool} {f : Da → Da}
    {use : Option (Value → Sem Unit)} {Q : Value → Shared → Prop} {E : Value → Shared → Prop}
    (F : Fm κ h env ρ) (hsrc : Src κ n env h iter ds) (hz : ds.length ≤ sizeLine) (hclos : closureFor scope env = pure cl) (hcl : ∀ y a, cl.lookup y = some a → env.cells.lookup y = some a ∧ env.kindOf y ≠ some .local)
    (hcf : ∀ L, cellsFrom L scope.names cl = (x, L) :: cl) (hpc : ∀ h : Heap, pushCells h scope.names = h.push { cls := .type "cell", data := .cell none }) (hkind : scope.kind = .function) (hnames : ∀ z ∈ scope.names, z.2 = .local → scope.names.lookup z.1 = some .local)
    (hx : scope.names.lookup x ≠ some .local) (hxk : ∀ C c, (compEnvC scope ((x, c) :: cl) C env).kindOf x = some .cell)
    (test : ∀ C c (i : Nat) v d h', Ext κ.T h h' → ds[i]? = some d → Dn Tr h' v d → Fm κ h' (compEnvC scope ((x, c) :: cl) C env) (compRho scope x v ρ) → EvT κ n (compEnvC scope ((x, c) :: cl) C env) h' ifs (keep d))
    (helt : ∀ C c (i : Nat) v d h', Ext κ.T h h' → ds[i]? = some d → Dn Tr h' v d → Fm κ h' (compEnvC scope ((x, c) :: cl) C env) (compRho scope x v ρ) → keep d = true → Ev κ n (compEnvC scope ((x, c) :: cl) C env) h' elt (Is (f d)))
    (hs : ∀ x, foldedSetIterable iter env x = pure x) (rm : Rm n A) (y : At κ h V s)
    (hend : ∀ D C s', Dn V s'.heap (.ref D) (.list ((ds.filter keep).map f)) → Lt κ.T NoX s s' → s.heap.get? C = none → (∃ m, s'.heap.Ns C m) → C ≠ D → At κ h V s' → compPost κ.M A E use Q (.ref D) C (.ok .next) s') :
    wpAny κ.M A (comprehension (.ListComp elt [⟨.Name x px, iter, ifs, 0⟩] scope pos) scope env pos' (newList []) false (eval iter env) use) Q E s := by
  refine wpAny_comprehension_free (g := ⟨.Name x px, iter, ifs, 0⟩) (gs := []) rfl hs hclos hkind hnames ?_
  refine hsrc.go rm y fun I fp wr P St s₂ l02 y₂ W => ?_
  refine wpAny_newObj_type (newEnv_cell hcf hpc ?_)
  dsimp only
  generalize hH2 : s₂.heap.push { cls := .type "list", dict := none, data := .seq ([] : List Value).toArray } = H2
  have hC : H2.objs.size = s₂.heap.objs.size + 1 := by rw [← hH2, Heap.size_push]
  generalize hh1 : (H2.push { cls := .type "dict", data := .dict #[] }).push { cls := .type "cell", data := .cell none } = h₁
  have hDC : s₂.heap.objs.size ≠ H2.objs.size := by rw [hC]; exact Nat.ne_of_lt (Nat.lt_succ_self _)
  have up1 : ∀ b o, H2.get? b = some o → h₁.get? b = some o := fun b o e => hh1 ▸ Heap.get?_push_of_some _ (Heap.get?_push_of_some _ e)
  have old : ∀ b o, s₂.heap.get? b = some o → h₁.get? b = some o := fun b o e => up1 b o (hH2 ▸ Heap.get?_push_of_some _ e)
  have hacc : h₁.PlainList s₂.heap.objs.size #[] := ⟨_, up1 _ _ (hH2 ▸ Heap.get?_push_size _ rfl)⟩
  have hns₁ : h₁.Ns H2.objs.size (fun _ => none) := (Heap.Ns.new H2 (.type "dict")).keeps fun b o e => hh1 ▸ Heap.get?_push_of_some _ e
  have hcell₁ : h₁.IsCell (H2.objs.size + 1) none := ⟨_, by rw [← hh1, show H2.objs.size + 1 = (H2.push { cls := .type "dict", data := .dict #[] }).objs.size from (Heap.size_push ..).symm]; exact Heap.get?_push_size _ rfl, rfl⟩
  have hst₁ : St 0 h₁ := W.w.frame _ _ _ W.st fun b _ o e => old b o e
  have freshC : s₂.heap.get? H2.objs.size = none := get_none_of_size (by rw [hC]; omega)
  have freshc : s₂.heap.get? (H2.objs.size + 1) = none := get_none_of_size (by rw [hC]; omega)
  have freshD : s₂.heap.get? s₂.heap.objs.size = none := get_none_of_size (Nat.le_refl _)
  have nfp : ∀ b, s₂.heap.objs.size ≤ b → b ∉ fp := fun b hb hm => absurd (W.below b hm) (Nat.not_lt.mpr hb)
  have l2 : Lt κ.T NoX s₂ ⟨h₁, s₂.gens, s₂.drawn, s₂.toks, s₂.os⟩ := .of_keep old
  have loop : codeAny κ.M A (.compLoop (.ListComp elt [⟨.Name x px, iter, ifs, 0⟩] scope pos) 0 (.ref I) (.ref s₂.heap.objs.size) (compEnvC scope ((x, H2.objs.size + 1) :: cl) H2.objs.size env))
      (compPost κ.M A E use Q (.ref s₂.heap.objs.size) H2.objs.size) ⟨h₁, s₂.gens, s₂.drawn, s₂.toks, s₂.os⟩ := by
    have hw : ∀ b, s₂.heap.objs.size ≤ b → b ∉ wr := fun b hb hm => nfp b hb (W.w.sub _ hm)
    refine comp_loop (keep := keep) (f := f) (X := fun b => b = H2.objs.size ∨ b = H2.objs.size + 1) (J := fun h' => (∃ m', h'.Ns H2.objs.size m') ∧ ∃ u, h'.IsCell (H2.objs.size + 1) u) (K := fun v h' => (∃ m', h'.Ns H2.objs.size m') ∧ h'.IsCell (H2.objs.size + 1) (some v)) rm W hz y l02 l2 y₂.tk
      (by rintro b (rfl | rfl); exact freshC; exact freshc) freshD (by rintro (q | q); exact hDC q; (have q' : s₂.heap.objs.size = H2.objs.size + 1 := q); omega) (nfp _ (Nat.le_refl _)) hst₁ hacc ⟨⟨_, hns₁⟩, _, hcell₁⟩ (by rintro b (rfl | rfl) <;> exact nfp _ (by rw [hC]; omega)) ?_ ?_ ?_ ?_ ?_ ?_ ?_ ?_ ?_
    · rintro b h' o (rfl | rfl) ⟨⟨m', o', es, ep, e', hd, _⟩, u, o2, e2, hd2⟩ e q
      · rw [e] at e'; cases e'; exact q.ne hd rfl
      · rw [e] at e2; cases e2; exact q.ne hd2 rfl
    · rintro h' h'' ⟨⟨m', hn⟩, u, hcl'⟩ e
      exact ⟨⟨m', ns_extB e (by rintro (q | q); exact hDC q.symm; exact hw _ (by rw [hC]; omega) q) hn⟩, u, cell_extB e (by rintro (q | q); (have q' : H2.objs.size + 1 = s₂.heap.objs.size := q); omega; exact hw _ (by rw [hC]; omega) q) hcl'⟩
    · rintro v h' ⟨hn, hcl'⟩; exact ⟨hn, _, hcl'⟩
    · rintro v h' h'' ⟨⟨m', hn⟩, hcl'⟩ e
      exact ⟨⟨m', ns_extB e (by rintro (q | q); exact hDC q.symm; exact hw _ (by rw [hC]; omega) q) hn⟩, cell_extB e (by rintro (q | q); (have q' : H2.objs.size + 1 = s₂.heap.objs.size := q); omega; exact hw _ (by rw [hC]; omega) q) hcl'⟩
    · rintro v h' Y ⟨⟨m', hn⟩, o, eo, hd⟩ hXY _
      exact ⟨⟨m', hn.at' fun o e => by rw [cutH_yes (hXY _ (.inl rfl))]; exact e⟩, o, by rw [cutH_yes (hXY _ (.inr rfl))]; exact eo, hd⟩
    · rintro v s' Q' E' ⟨⟨m', hn⟩, u, hcl'⟩ k
      have hcC : H2.objs.size ≠ H2.objs.size + 1 := by omega
      refine wpAny_assign_Name (wpAny_storeName_cell (c := H2.objs.size + 1) hkind (hxk _ _) (List.lookup_cons_self ..) hcl' fun h₂ hc₂ hs₂ => k h₂ _ (Nat.le_refl _) ⟨⟨m', hn.sameBut hs₂ hcC⟩, hc₂⟩ (ExtB.sameBut hs₂ (.inr rfl)) (calm_cell hcl' hs₂))
    · rintro i v d h' k hd dv ⟨⟨m', hn⟩, hcl'⟩
      exact test _ _ i v d h' k hd dv (F.compC k hkind hcl hx hn hcl')
    · rintro i v d h' k hd dv ⟨⟨m', hn⟩, hcl'⟩ hkd
      exact helt _ _ i v d h' k hd dv (F.compC k hkind hcl hx hn hcl') hkd
    · rintro s' ys l ⟨⟨m', hn⟩, _⟩ hl hdat htk
      have vD : V s₂.heap.objs.size := y.vis _ (.inr (Ext.back l02.ext freshD))
      have ls : Lt κ.T NoX s s' := by
        refine ⟨ExtB.fresh (l02.trans l2).ext l.ext ?_, fun g => l.gens ((l02.trans l2).gens g), l.os.trans (l02.trans l2).os, fun g => l.ok ((l02.trans l2).ok g), fun g => ⟨(l.same g).1.trans ((l02.trans l2).same g).1, (l.same g).2.trans ((l02.trans l2).same g).2⟩⟩
        rintro b ((rfl | rfl) | rfl | hb)
        · exact Ext.back l02.ext freshC
        · exact Ext.back l02.ext freshc
        · exact Ext.back l02.ext freshD
        · exact W.new b hb
      exact hend _ _ s' (.list vD hl hdat) ls (Ext.back l02.ext freshC) ⟨m', hn⟩ hDC.symm ⟨y.ext.trans ls.ext, htk, ls.ok y.ok, fun b e => y.vis b (e.imp id fun q => Ext.back ls.ext q)⟩
  exact codeAny_compStart_list loop (W.w.self 0 _ _ _ hst₁ loop)
end Mine
end
section
open PySem PySem.W PySem.W.X PyProof.Rows PySem.Calls
set_option Elab.async false
set_option maxRecDepth 100000
set_option maxHeartbeats 1000000
namespace Mine
section
variable {M : Model} {A : Around} {E : Value → Shared → Prop} {s : Shared}
theorem sub_tuple : isSubtype (.type "tuple") (.type "tuple") = pure true := by rw [isSubtype_type]; kernel_rfl
theorem sub_dict : isSubtype (.type "dict") (.type "dict") = pure true := by rw [isSubtype_type]; kernel_rfl
theorem sub_type : isSubtype (.type "type") (.type "type") = pure true := by rw [isSubtype_type]; kernel_rfl
theorem sub_object : isSubtype (.type "object") (.type "object") = pure true := by rw [isSubtype_type]; kernel_rfl
theorem typeOf_object : typeOf (.type "object") = pure (.type "type") := by kernel_rfl
theorem look_dict_iter : typeLookup (.type "dict") "__iter__" = pure (some (.builtin "dict.__iter__")) := by rw [typeLookup_type, builtinLookup_eq_fast]; kernel_rfl
theorem look_type_mro : typeLookup (.type "type") "mro" = pure (some (.builtin "type.mro")) := by rw [typeLookup_type, builtinLookup_eq_fast]; kernel_rfl
theorem mro_object : mroOf (.type "object") = pure [.type "object"] := by kernel_rfl
theorem extended_object : Builtin.extendedBase [.type "object"] = pure (.type "object") := by kernel_rfl
theorem best_object : Builtin.Slots.bestBase [.type "object"] = pure (.type "object") := by kernel_rfl
theorem turned_object : Builtin.notOverATurnedClass [.type "object"] = pure () := by kernel_rfl
theorem lin_object : Builtin.linearize [.type "object"] mroOf = pure [.type "object"] := by kernel_rfl
end
end Mine
namespace Mine
noncomputable def Hold (P : Prop) : Prop := P
theorem unhold {P : Prop} (h : P) : Hold P := h
section
variable {M : Model} {A : Around} {E : Value → Shared → Prop} {s : Shared}
noncomputable def forQ {α β : Type} (M : Model) (A : Around) (E : Value → Shared → Prop) (l : List α) (f : α → β → Sem (ForInStep β)) (Q : β → Shared → Prop) : ForInStep β → Shared → Prop := fun r s' => match r with | .done b' => Q b' s' | .yield b' => wpAny M A (forIn l b' f) Q E s'
theorem forQ_yield {α β : Type} {l : List α} {f : α → β → Sem (ForInStep β)} {Q : β → Shared → Prop} {b : β} (h : wpAny M A (forIn l b f) Q E s) : forQ M A E l f Q (.yield b) s := h
theorem forQ_done {α β : Type} {l : List α} {f : α → β → Sem (ForInStep β)} {Q : β → Shared → Prop} {b : β} (h : Q b s) : forQ M A E l f Q (.done b) s := h
theorem wpa_for_cons {α β : Type} {x : α} {l : List α} {b : β} {f : α → β → Sem (ForInStep β)} {Q : β → Shared → Prop}
    (h : wpAny M A (f x b) (forQ M A E l f Q) E s) : wpAny M A (forIn (x :: l) b f) Q E s := by
  rw [List.forIn_cons]
  refine wpAny_bind (wpAny_mono h (fun r s' h' => ?_) fun _ _ e => e)
  cases r with
  | done b' => exact wpAny_pure h'
  | yield b' => exact h'
theorem wpa_for_nil {α β : Type} {b : β} {f : α → β → Sem (ForInStep β)} {Q : β → Shared → Prop}
    (h : Q b s) : wpAny M A (forIn ([] : List α) b f) Q E s := by
  rw [List.forIn_nil]; exact wpAny_pure h
theorem st_seq {v : Value} {Q} (h : Hold (wpAny M A (seqItems? v) Q E s)) : wpAny M A (seqItems? v) Q E s := h
theorem st_ext {v : List Value} {Q} (h : Hold (wpAny M A (Builtin.extendedBase v) Q E s)) : wpAny M A (Builtin.extendedBase v) Q E s := h
theorem st_trn {v : List Value} {Q} (h : Hold (wpAny M A (Builtin.notOverATurnedClass v) Q E s)) : wpAny M A (Builtin.notOverATurnedClass v) Q E s := h
theorem st_read {n : Str} {v : List Value} {es} {Q} (h : Hold (wpAny M A (Builtin.Slots.read n v es) Q E s)) : wpAny M A (Builtin.Slots.read n v es) Q E s := h
theorem st_dict {a : Addr} {p} {Q} (h : Hold (wpAny M A (dictEntries a p) Q E s)) : wpAny M A (dictEntries a p) Q E s := h
theorem st_nsget {a : Addr} {p} {Q} (h : Hold (wpAny M A (nsGet a p) Q E s)) : wpAny M A (nsGet a p) Q E s := h
theorem st_newobj {a : Value} {p d} {Q} (h : Hold (wpAny M A (newObj a p d) Q E s)) : wpAny M A (newObj a p d) Q E s := h
end

theorem givesDict_object : Builtin.Slots.givesDict (.type "object") = pure false := by kernel_rfl
theorem givesWeak_object : Builtin.Slots.givesWeak (.type "object") = pure false := by kernel_rfl
theorem varSize_object : Builtin.Slots.varSize (.type "object") = pure false := by kernel_rfl
theorem st_collect {M : Model} {A : Around} {E : Value → Shared → Prop} {s : Shared} {v : Value} {Q} (h : Hold (wpAny M A (collect v) Q E s)) : wpAny M A (collect v) Q E s := h
theorem slotNames_object : Builtin.Slots.slotNamesOf (.type "object") = pure [] := by kernel_rfl
theorem slots_read {prog : Program} {w : World} {A : Around} {E : Value → Shared → Prop} {Q : Builtin.Slots.Plan → Shared → Prop} {s : Shared} {es : Array DictEntry} {e : DictEntry} {sl : Addr} {n : Nat} {to : Tok}
    (he : es.find? (fun x => x.key.isStr "__slots__") = some e) (hv : e.val = .ref sl) (hl : s.heap.get? sl = some (seqObj "list" #[.str "obj" to] n)) (hno : es.any (fun x => x.key.isStr "obj") = false)
    (hQ : ∀ h', (∀ b o', s.heap.get? b = some o' → h'.get? b = some o') → Q ⟨["obj"], false, false, []⟩ { s with heap := h' }) :
    wpAny (model prog w) A (Builtin.Slots.read "K" [.type "object"] es) Q E s := by
  unfold Builtin.Slots.read
  repeat (first | with_reducible (first | refine wpAny_of_eq best_object ?_ | refine st_collect ?_ | refine wpAny_of_eq givesDict_object ?_ | refine wpAny_of_eq givesWeak_object ?_ | refine wpAny_of_eq varSize_object ?_ | refine wpAny_of_eq slotNames_object ?_) | with_reducible (first | refine wpa_bindK ?_ | refine kp_out ?_ | refine wpAny_pure ?_ | refine forQ_yield ?_ | refine forQ_done ?_ | refine wpa_for_nil ?_ | refine wpa_for_cons ?_ | refine wpAny_rule ?_ | refine wpAny_holding ?_ | refine wpAny_of_eq sub_tuple ?_ | refine wpAny_of_eq sub_dict ?_ | refine wpAny_of_eq sub_type ?_ | refine wpAny_of_eq sub_object ?_ | refine wpAny_of_eq typeOf_object ?_ | refine wpAny_of_eq look_dict_iter ?_ | refine wpAny_of_eq look_type_mro ?_ | refine wpAny_of_eq mro_object ?_ | refine st_seq ?_ | refine st_ext ?_ | refine st_trn ?_ | refine st_read ?_ | refine st_dict ?_ | refine st_nsget ?_ | refine st_newobj ?_) | refine wpAny_ite_false rfl ?_ | refine wpAny_ite_true rfl ?_ | wp_delta | wp_step)
  rw [he]
  repeat (first | with_reducible (first | refine wpAny_of_eq best_object ?_ | refine st_collect ?_ | refine wpAny_of_eq givesDict_object ?_ | refine wpAny_of_eq givesWeak_object ?_ | refine wpAny_of_eq varSize_object ?_ | refine wpAny_of_eq slotNames_object ?_) | with_reducible (first | refine wpa_bindK ?_ | refine kp_out ?_ | refine wpAny_pure ?_ | refine forQ_yield ?_ | refine forQ_done ?_ | refine wpa_for_nil ?_ | refine wpa_for_cons ?_ | refine wpAny_rule ?_ | refine wpAny_holding ?_ | refine wpAny_of_eq sub_tuple ?_ | refine wpAny_of_eq sub_dict ?_ | refine wpAny_of_eq sub_type ?_ | refine wpAny_of_eq sub_object ?_ | refine wpAny_of_eq typeOf_object ?_ | refine wpAny_of_eq look_dict_iter ?_ | refine wpAny_of_eq look_type_mro ?_ | refine wpAny_of_eq mro_object ?_ | refine st_seq ?_ | refine st_ext ?_ | refine st_trn ?_ | refine st_read ?_ | refine st_dict ?_ | refine st_nsget ?_ | refine st_newobj ?_) | refine wpAny_ite_false rfl ?_ | refine wpAny_ite_true rfl ?_ | wp_delta | wp_step)
  rw [hv]
  repeat (first | with_reducible (first | refine wpAny_of_eq best_object ?_ | refine st_collect ?_ | refine wpAny_of_eq givesDict_object ?_ | refine wpAny_of_eq givesWeak_object ?_ | refine wpAny_of_eq varSize_object ?_ | refine wpAny_of_eq slotNames_object ?_) | with_reducible (first | refine wpa_bindK ?_ | refine kp_out ?_ | refine wpAny_pure ?_ | refine forQ_yield ?_ | refine forQ_done ?_ | refine wpa_for_nil ?_ | refine wpa_for_cons ?_ | refine wpAny_rule ?_ | refine wpAny_holding ?_ | refine wpAny_of_eq sub_tuple ?_ | refine wpAny_of_eq sub_dict ?_ | refine wpAny_of_eq sub_type ?_ | refine wpAny_of_eq sub_object ?_ | refine wpAny_of_eq typeOf_object ?_ | refine wpAny_of_eq look_dict_iter ?_ | refine wpAny_of_eq look_type_mro ?_ | refine wpAny_of_eq mro_object ?_ | refine st_seq ?_ | refine st_ext ?_ | refine st_trn ?_ | refine st_read ?_ | refine st_dict ?_ | refine st_nsget ?_ | refine st_newobj ?_) | refine wpAny_ite_false rfl ?_ | refine wpAny_ite_true rfl ?_ | wp_delta | wp_step)
  refine unhold (wpAny_collect_seq sl (T := "list") (.inl rfl) hl rfl rfl (fun h' k => ?_))
  repeat (first | with_reducible (first | refine wpAny_of_eq best_object ?_ | refine st_collect ?_ | refine wpAny_of_eq givesDict_object ?_ | refine wpAny_of_eq givesWeak_object ?_ | refine wpAny_of_eq varSize_object ?_ | refine wpAny_of_eq slotNames_object ?_) | with_reducible (first | refine wpa_bindK ?_ | refine kp_out ?_ | refine wpAny_pure ?_ | refine forQ_yield ?_ | refine forQ_done ?_ | refine wpa_for_nil ?_ | refine wpa_for_cons ?_ | refine wpAny_rule ?_ | refine wpAny_holding ?_ | refine wpAny_of_eq sub_tuple ?_ | refine wpAny_of_eq sub_dict ?_ | refine wpAny_of_eq sub_type ?_ | refine wpAny_of_eq sub_object ?_ | refine wpAny_of_eq typeOf_object ?_ | refine wpAny_of_eq look_dict_iter ?_ | refine wpAny_of_eq look_type_mro ?_ | refine wpAny_of_eq mro_object ?_ | refine st_seq ?_ | refine st_ext ?_ | refine st_trn ?_ | refine st_read ?_ | refine st_dict ?_ | refine st_nsget ?_ | refine st_newobj ?_) | refine wpAny_ite_false rfl ?_ | refine wpAny_ite_true rfl ?_ | wp_delta | wp_step)
  rw [show Builtin.Slots.isIdentifier (Str.ofString "obj") = some true by kernel_rfl]
  repeat (first | with_reducible (first | refine wpAny_of_eq best_object ?_ | refine st_collect ?_ | refine wpAny_of_eq givesDict_object ?_ | refine wpAny_of_eq givesWeak_object ?_ | refine wpAny_of_eq varSize_object ?_ | refine wpAny_of_eq slotNames_object ?_) | with_reducible (first | refine wpa_bindK ?_ | refine kp_out ?_ | refine wpAny_pure ?_ | refine forQ_yield ?_ | refine forQ_done ?_ | refine wpa_for_nil ?_ | refine wpa_for_cons ?_ | refine wpAny_rule ?_ | refine wpAny_holding ?_ | refine wpAny_of_eq sub_tuple ?_ | refine wpAny_of_eq sub_dict ?_ | refine wpAny_of_eq sub_type ?_ | refine wpAny_of_eq sub_object ?_ | refine wpAny_of_eq typeOf_object ?_ | refine wpAny_of_eq look_dict_iter ?_ | refine wpAny_of_eq look_type_mro ?_ | refine wpAny_of_eq mro_object ?_ | refine st_seq ?_ | refine st_ext ?_ | refine st_trn ?_ | refine st_read ?_ | refine st_dict ?_ | refine st_nsget ?_ | refine st_newobj ?_) | refine wpAny_ite_false rfl ?_ | refine wpAny_ite_true rfl ?_ | wp_delta | wp_step)
  refine wpAny_ite_false (c := ((es.any (fun x => x.key.isStr (Builtin.Slots.mangle (Str.ofString "K") (Str.ofString "obj"))) && _) = true)) ?_ ?_
  · rw [show Builtin.Slots.mangle (Str.ofString "K") (Str.ofString "obj") = "obj" by kernel_rfl, hno]; rfl
  repeat (first | with_reducible (first | refine wpAny_of_eq best_object ?_ | refine st_collect ?_ | refine wpAny_of_eq givesDict_object ?_ | refine wpAny_of_eq givesWeak_object ?_ | refine wpAny_of_eq varSize_object ?_ | refine wpAny_of_eq slotNames_object ?_) | with_reducible (first | refine wpa_bindK ?_ | refine kp_out ?_ | refine wpAny_pure ?_ | refine forQ_yield ?_ | refine forQ_done ?_ | refine wpa_for_nil ?_ | refine wpa_for_cons ?_ | refine wpAny_rule ?_ | refine wpAny_holding ?_ | refine wpAny_of_eq sub_tuple ?_ | refine wpAny_of_eq sub_dict ?_ | refine wpAny_of_eq sub_type ?_ | refine wpAny_of_eq sub_object ?_ | refine wpAny_of_eq typeOf_object ?_ | refine wpAny_of_eq look_dict_iter ?_ | refine wpAny_of_eq look_type_mro ?_ | refine wpAny_of_eq mro_object ?_ | refine st_seq ?_ | refine st_ext ?_ | refine st_trn ?_ | refine st_read ?_ | refine st_dict ?_ | refine st_nsget ?_ | refine st_newobj ?_) | refine wpAny_ite_false rfl ?_ | refine wpAny_ite_true rfl ?_ | wp_delta | wp_step)
  exact hQ h' k
end Mine
end
section
open PySem PySem.W PySem.W.X PyProof.Rows PySem.Calls
set_option Elab.async false
set_option maxRecDepth 100000
set_option maxHeartbeats 1000000
namespace Mine
section
variable {M : Model} {A : Around} {E : Value → Shared → Prop} {s : Shared}
theorem st_try {α : Type} {x : Sem α} {f : Value → Sem α} {Q} (h : Hold (wpAny M A (x.tryCatch f) Q E s)) : wpAny M A (x.tryCatch f) Q E s := h
theorem st_nsset {a : Addr} {p v} {Q} (h : Hold (wpAny M A (nsSet a p v) Q E s)) : wpAny M A (nsSet a p v) Q E s := h
theorem st_nsdel {a : Addr} {p} {Q} (h : Hold (wpAny M A (nsDel a p) Q E s)) : wpAny M A (nsDel a p) Q E s := h
theorem st_alloc {o : Obj} {Q} (h : Hold (wpAny M A (alloc o) Q E s)) : wpAny M A (alloc o) Q E s := h
theorem st_slot {a : Addr} {i v} {Q} (h : Hold (wpAny M A (setSlotAt a i v) Q E s)) : wpAny M A (setSlotAt a i v) Q E s := h
theorem st_ucls {a : Addr} {f} {Q} (h : Hold (wpAny M A (updateCls a f) Q E s)) : wpAny M A (updateCls a f) Q E s := h
theorem st_hook {v} {Q} (h : Hold (wpAny M A (Builtin.mroHook? v) Q E s)) : wpAny M A (Builtin.mroHook? v) Q E s := h
theorem st_lin {v f} {Q} (h : Hold (wpAny M A (Builtin.linearize v f) Q E s)) : wpAny M A (Builtin.linearize v f) Q E s := h
theorem st_rm {v} {Q} (h : Hold (wpAny M A (Bind.refreshMaker v) Q E s)) : wpAny M A (Bind.refreshMaker v) Q E s := h
theorem st_mb {v} {Q} (h : Hold (wpAny M A (Bind.madeBy v) Q E s)) : wpAny M A (Bind.madeBy v) Q E s := h
theorem st_inst {v n b p} {Q} (h : Hold (wpAny M A (Builtin.Slots.install v n b p) Q E s)) : wpAny M A (Builtin.Slots.install v n b p) Q E s := h
theorem st_gw {v} {Q} (h : Hold (wpAny M A (Builtin.Slots.givesWeak v) Q E s)) : wpAny M A (Builtin.Slots.givesWeak v) Q E s := h
theorem st_note {v a} {Q} (h : Hold (wpAny M A (Builtin.noteSubclassOfBuiltin v a) Q E s)) : wpAny M A (Builtin.noteSubclassOfBuiltin v a) Q E s := h
end
theorem ns1_any {h : Heap} {a : Addr} {m : Str → Option Value} {o : Obj} {es : Array DictEntry} {ep : Nat} (hn : h.Ns1 a m) (ho : h.get? a = some o) (hd : o.data = .dict es ep) (x : Str) : es.any (fun e => e.key.isStr x) = (m x).isSome := by
  refine Classical.byContradiction fun nay => ?_
  obtain ⟨o', es', ep', ho', hd', hk, hu, hm⟩ := hn
  refine nay ?_
  clear nay
  rw [ho] at ho'; cases ho'; rw [hd] at hd'; cases hd'
  rw [← hm x]; simp only [nsFind, findBy, Option.isSome_map]
  first | exact Array.isSome_find?.symm | simp
theorem hook_type : Builtin.mroHook? (.type "type") = pure none := by kernel_rfl
noncomputable def co (cd : ClassData) (sl : Array (Option Value)) : Obj := { cls := .type "type", dict := none, data := .cls cd, slots := sl }
theorem wpa_slot {M : Model} {A : Around} {E : Value → Shared → Prop} {s : Shared} {a : Addr} {i : Nat} {v : Option Value} {cd : ClassData} {sl sl' : Array (Option Value)} {Q : Unit → Shared → Prop} (ho : s.heap.get? a = some (co cd sl)) (hi : i < 100)
    (hs : (sl ++ Array.replicate (i + 1 - sl.size) none).setIfInBounds i v = sl') (hq : ∀ h', h'.get? a = some (co cd sl') → Heap.SameBut a s.heap h' → Q () { s with heap := h' }) : wpAny M A (setSlotAt a i v) Q E s := by
  unfold setSlotAt
  have : ¬ i ≥ sizeLine := by rw [sizeLine_eq]; omega
  rw [if_neg this]
  refine wpAny_updatePart ho (hq _ ?_ (Heap.SameBut.update ..))
  subst hs
  exact Heap.get?_update_self _ ho rfl
theorem wpa_ucls {M : Model} {A : Around} {E : Value → Shared → Prop} {s : Shared} {a : Addr} {f : ClassData → ClassData} {cd : ClassData} {sl : Array (Option Value)} {Q : Unit → Shared → Prop} (ho : s.heap.get? a = some (co cd sl))
    (hp : (Data.cls (f cd)).pastItsLine = none) (hq : ∀ h', h'.get? a = some (co (f cd) sl) → Heap.SameBut a s.heap h' → Q () { s with heap := h' }) : wpAny M A (updateCls a f) Q E s := by
  unfold updateCls
  refine wpAny_bind (wpAny_load ho ?_)
  have e : (s.heap.update a (Obj.mapCls f)).get? a = some (co (f cd) sl) := Heap.get?_update_self _ ho rfl
  exact wpAny_bind (wpAny_update ho (wpAny_lookBehind e hp (hq _ e (Heap.SameBut.update ..))))
theorem wpa_own {M : Model} {A : Around} {E : Value → Shared → Prop} {s : Shared} {C N : Addr} {cd : ClassData} {sl : Array (Option Value)} {mN : Str → Option Value} {name : Str} {Q : Option Value → Shared → Prop} (hC : s.heap.get? C = some (co cd sl)) (hns : cd.ns = N) (hn : s.heap.Ns N mN) (hq : Q (mN name) s) :
    wpAny M A (classOwn (.ref C) name) Q E s := by
  unfold classOwn
  refine wpAny_bind ?_
  unfold classData
  refine wpAny_bind (wpAny_load hC (wpAny_pure ?_))
  rw [hns]
  exact wpAny_nsGet hn hq
theorem wpa_tlook {M : Model} {A : Around} {E : Value → Shared → Prop} {s : Shared} {C N : Addr} {cd : ClassData} {sl : Array (Option Value)} {mN : Str → Option Value} {name : Str} {y : Option Value} {Q : Option Value → Shared → Prop} (hC : s.heap.get? C = some (co cd sl)) (hm : cd.mro = [.ref C, .type "object"]) (hns : cd.ns = N) (hn : s.heap.Ns N mN)
    (hB : typeLookup (.type "object") name = pure y) (hq : Q (match mN name with | some v => some v | none => y) s) : wpAny M A (typeLookup (.ref C) name) Q E s := by
  have hrest : lookupAlong [.type "object"] name = pure y := by rw [typeLookup_eq, mro_object] at hB; exact hB
  rw [typeLookup_eq]
  refine wpAny_bind ?_
  unfold mroOf
  refine wpAny_bind ?_
  unfold classData
  refine wpAny_bind (wpAny_load hC (wpAny_pure (wpAny_pure ?_)))
  rw [hm, lookupAlong_cons]
  refine wpAny_bind (wpa_own hC hns hn ?_)
  cases hv : mN name with
  | some v => rw [hv] at hq; exact wpAny_pure hq
  | none => rw [hv] at hq; rw [hrest]; exact wpAny_pure hq
theorem look_object_new : typeLookup (.type "object") "__new__" = pure (some (.builtin "object.__new__")) := by rw [typeLookup_type, builtinLookup_eq_fast]; kernel_rfl
theorem made_object : Bind.madeBy (.type "object") = pure (some "object.__new__") := by
  kernel_rfl
theorem wpa_refresh {M : Model} {A : Around} {E : Value → Shared → Prop} {s : Shared} {C N : Addr} {cd : ClassData} {k0 k1 k2 k3 : Option Value} {mN : Str → Option Value} {Q : Unit → Shared → Prop} (hC : s.heap.get? C = some (co cd #[k0, k1, k2, k3, some (.builtin "object.__new__")])) (hm : cd.mro = [.ref C, .type "object"]) (hns : cd.ns = N) (hn : s.heap.Ns N mN)
    (h0 : mN "__new__" = none) (hq : Q () s) : wpAny M A (Bind.refreshMaker C) Q E s := by
  unfold Bind.refreshMaker
  refine wpAny_bind ?_
  unfold slotAt
  refine wpAny_bind (wpAny_loadPart hC (wpAny_pure ?_))
  refine wpAny_ite_false rfl ?_
  refine wpAny_bind (wpa_tlook hC hm hns hn look_object_new ?_)
  rw [h0]
  dsimp -zeta only
  refine wpAny_ite_false (by kernel_rfl) ?_
  exact wpAny_pure hq
/-- few names, few entries -/
theorem uniq_len : ∀ (l : List DictEntry) (L : List Str), (l.Pairwise fun a b => ∀ n, a.key.isStr n = true → b.key.isStr n = true → False) → (∀ e ∈ l, ∃ n t, e.key = .str n t ∧ n ∈ L) → l.length ≤ L.length
  | [], _, _, _ => Nat.zero_le _
  | e :: l, L, hp, hk => by
    refine Classical.byContradiction fun nay => ?_
    obtain ⟨n, t, hn, hL⟩ := hk e List.mem_cons_self
    refine nay ?_
    clear nay
    have ih := uniq_len l (L.erase n) (List.pairwise_cons.mp hp).2 fun b hb => by
      refine Classical.byContradiction fun nay => ?_
      obtain ⟨k, u, hk', hkL⟩ := hk b (List.mem_cons_of_mem _ hb)
      refine nay ?_
      clear nay
      refine ⟨k, u, hk', ?_⟩
      have hne : k ≠ n := fun q => by
        refine (List.pairwise_cons.mp hp).1 b hb n ?_ ?_
        · rw [hn]; simp [Value.isStr]
        · rw [hk', q]; simp [Value.isStr]
      exact (List.mem_erase_of_ne hne).mpr hkL
    have := List.length_erase_of_mem hL
    have := List.length_pos_of_mem hL
    rw [List.length_cons]; omega
theorem ns1_small {h : Heap} {a : Addr} {m : Str → Option Value} (hn : h.Ns1 a m) (L : List Str) (hL : ∀ x, m x ≠ none → x ∈ L) {o : Obj} {es : Array DictEntry} {ep : Nat} (ho : h.get? a = some o) (hd : o.data = .dict es ep) : es.size ≤ L.length := by
  refine Classical.byContradiction fun nay => ?_
  obtain ⟨o', es', ep', ho', hd', hk, hu, hm⟩ := hn
  refine nay ?_
  clear nay
  rw [ho] at ho'; cases ho'; rw [hd] at hd'; cases hd'
  have := uniq_len es.toList L hu fun e he => by
    refine Classical.byContradiction fun nay => ?_
    obtain ⟨n, t, hn⟩ := hk e (Array.mem_toList_iff.mp he)
    refine nay ?_
    clear nay
    refine ⟨n, t, hn, hL n ?_⟩
    rw [← hm n]
    intro q
    simp only [nsFind, findBy, Option.map_eq_none_iff, Array.find?_eq_none] at q
    exact absurd (by rw [hn]; simp [Value.isStr]) (q e (Array.mem_toList_iff.mp he))
  simpa using this
theorem wpa_nsbv {M : Model} {A : Around} {E : Value → Shared → Prop} {s : Shared} {N : Addr} {m : Str → Option Value} {name : Str} {v : Value} {Q : Unit → Shared → Prop} (hn : s.heap.Ns1 N m) (L : List Str) (hL : ∀ x, m x ≠ none → x ∈ L) (hz : L.length ≤ 1000)
    (hQ : ∀ h', h'.Ns1 N (fun x => if x = name then some v else m x) → Heap.SameBut N s.heap h' → Q () { s with heap := h', toks := s.toks + 1 }) : wpAny M A (nsSetByValue N name v) Q E s := by
  unfold nsSetByValue
  refine Classical.byContradiction fun nay => ?_
  obtain ⟨o, es, ep, ho, hd, _⟩ := id hn
  refine nay ?_
  clear nay
  have hs := ns1_small hn L hL ho hd
  refine wpAny_bind (wpAny_loadPart ho ?_)
  rw [hd]
  have : decide (es.size > sizeLine) = false := decide_eq_false (by rw [sizeLine_eq]; omega)
  refine wpAny_ite_false (by rw [this]; rfl) ?_
  exact wpAny_nsSet1 hn hQ
theorem givesDict_object' : Builtin.Slots.givesDict (.type "object") = pure false := by kernel_rfl
theorem st_mkstr {M : Model} {A : Around} {E : Value → Shared → Prop} {s : Shared} {v} {Q} (h : Hold (wpAny M A (mkStr v) Q E s)) : wpAny M A (mkStr v) Q E s := h
theorem st_nsbv {M : Model} {A : Around} {E : Value → Shared → Prop} {s : Shared} {a n v} {Q} (h : Hold (wpAny M A (nsSetByValue a n v) Q E s)) : wpAny M A (nsSetByValue a n v) Q E s := h
theorem wpa_install {M : Model} {A : Around} {E : Value → Shared → Prop} {s : Shared} {a N : Addr} {cd : ClassData} {sl : Array (Option Value)} {m : Str → Option Value} {Q : Unit → Shared → Prop} (hC : s.heap.get? a = some (co cd sl)) (hn : s.heap.Ns1 N m) (haN : a ≠ N) (hobj : m "obj" = none) (hsub : cd.subclasses = []) (L : List Str) (hL : ∀ x, m x ≠ none → x ∈ L) (hz : L.length ≤ 1000)
    (hq : ∀ h' D to tk, h'.get? a = some (co { cd with hasDict := false, slotNames := ["obj"] } sl) → h'.Ns1 N (fun x => if x = "obj" then some (.ref D) else m x) → (∀ b o, b ≠ a → b ≠ N → s.heap.get? b = some o → h'.get? b = some o) → s.heap.get? D = none →
      h'.get? D = some { cls := .type "member_descriptor", data := .fields #[.str "obj" to, .ref a, .builtin "proto.slot", .builtin "proto.slot#set", rawInt 0] } → Q () { s with heap := h', toks := tk }) : wpAny M A (Builtin.Slots.install (.ref a) N [.type "object"] ⟨["obj"], false, false, []⟩) Q E s := by
  unfold Builtin.Slots.install
  repeat (first | with_reducible (first | refine wpAny_of_eq givesDict_object' ?_ | refine st_mkstr ?_ | refine st_nsbv ?_) | with_reducible (first | refine wpAny_bind ?_ | refine wpAny_pure ?_ | refine forQ_yield ?_ | refine forQ_done ?_ | refine wpa_for_nil ?_ | refine wpa_for_cons ?_ | refine wpAny_rule ?_ | refine wpAny_holding ?_ | refine wpAny_of_eq sub_tuple ?_ | refine wpAny_of_eq sub_dict ?_ | refine wpAny_of_eq sub_type ?_ | refine wpAny_of_eq sub_object ?_ | refine wpAny_of_eq typeOf_object ?_ | refine wpAny_of_eq look_dict_iter ?_ | refine wpAny_of_eq look_type_mro ?_ | refine wpAny_of_eq mro_object ?_ | refine st_seq ?_ | refine st_ext ?_ | refine st_trn ?_ | refine st_read ?_ | refine st_dict ?_ | refine st_nsget ?_ | refine st_newobj ?_ | refine st_nsset ?_ | refine st_nsdel ?_ | refine st_alloc ?_ | refine st_slot ?_ | refine st_ucls ?_ | refine st_hook ?_ | refine st_lin ?_ | refine st_rm ?_ | refine st_mb ?_ | refine st_inst ?_ | refine st_gw ?_ | refine st_note ?_ | refine st_try ?_) | refine wpAny_ite_false rfl ?_ | refine wpAny_ite_true rfl ?_ | wp_delta | wp_step)
  refine unhold (wpAny_nsGet hn.ns ?_)
  rw [hobj]
  repeat (first | with_reducible (first | refine wpAny_of_eq givesDict_object' ?_ | refine st_mkstr ?_ | refine st_nsbv ?_) | with_reducible (first | refine wpAny_bind ?_ | refine wpAny_pure ?_ | refine forQ_yield ?_ | refine forQ_done ?_ | refine wpa_for_nil ?_ | refine wpa_for_cons ?_ | refine wpAny_rule ?_ | refine wpAny_holding ?_ | refine wpAny_of_eq sub_tuple ?_ | refine wpAny_of_eq sub_dict ?_ | refine wpAny_of_eq sub_type ?_ | refine wpAny_of_eq sub_object ?_ | refine wpAny_of_eq typeOf_object ?_ | refine wpAny_of_eq look_dict_iter ?_ | refine wpAny_of_eq look_type_mro ?_ | refine wpAny_of_eq mro_object ?_ | refine st_seq ?_ | refine st_ext ?_ | refine st_trn ?_ | refine st_read ?_ | refine st_dict ?_ | refine st_nsget ?_ | refine st_newobj ?_ | refine st_nsset ?_ | refine st_nsdel ?_ | refine st_alloc ?_ | refine st_slot ?_ | refine st_ucls ?_ | refine st_hook ?_ | refine st_lin ?_ | refine st_rm ?_ | refine st_mb ?_ | refine st_inst ?_ | refine st_gw ?_ | refine st_note ?_ | refine st_try ?_) | refine wpAny_ite_false rfl ?_ | refine wpAny_ite_true rfl ?_ | wp_delta | wp_step)
  refine unhold (wpAny_newObj_type ?_ (by show 5 ≤ sizeLine + 2; decide))
  repeat (first | with_reducible (first | refine wpAny_of_eq givesDict_object' ?_ | refine st_mkstr ?_ | refine st_nsbv ?_) | with_reducible (first | refine wpAny_bind ?_ | refine wpAny_pure ?_ | refine forQ_yield ?_ | refine forQ_done ?_ | refine wpa_for_nil ?_ | refine wpa_for_cons ?_ | refine wpAny_rule ?_ | refine wpAny_holding ?_ | refine wpAny_of_eq sub_tuple ?_ | refine wpAny_of_eq sub_dict ?_ | refine wpAny_of_eq sub_type ?_ | refine wpAny_of_eq sub_object ?_ | refine wpAny_of_eq typeOf_object ?_ | refine wpAny_of_eq look_dict_iter ?_ | refine wpAny_of_eq look_type_mro ?_ | refine wpAny_of_eq mro_object ?_ | refine st_seq ?_ | refine st_ext ?_ | refine st_trn ?_ | refine st_read ?_ | refine st_dict ?_ | refine st_nsget ?_ | refine st_newobj ?_ | refine st_nsset ?_ | refine st_nsdel ?_ | refine st_alloc ?_ | refine st_slot ?_ | refine st_ucls ?_ | refine st_hook ?_ | refine st_lin ?_ | refine st_rm ?_ | refine st_mb ?_ | refine st_inst ?_ | refine st_gw ?_ | refine st_note ?_ | refine st_try ?_) | refine wpAny_ite_false rfl ?_ | refine wpAny_ite_true rfl ?_ | wp_delta | wp_step)
  refine unhold (wpa_nsbv (m := m) (hn.at fun o e => Heap.get?_push_of_some _ e) L hL hz fun h1 n1 s1 => ?_)
  repeat (first | with_reducible (first | refine wpAny_of_eq givesDict_object' ?_ | refine st_mkstr ?_ | refine st_nsbv ?_) | with_reducible (first | refine wpAny_bind ?_ | refine wpAny_pure ?_ | refine forQ_yield ?_ | refine forQ_done ?_ | refine wpa_for_nil ?_ | refine wpa_for_cons ?_ | refine wpAny_rule ?_ | refine wpAny_holding ?_ | refine wpAny_of_eq sub_tuple ?_ | refine wpAny_of_eq sub_dict ?_ | refine wpAny_of_eq sub_type ?_ | refine wpAny_of_eq sub_object ?_ | refine wpAny_of_eq typeOf_object ?_ | refine wpAny_of_eq look_dict_iter ?_ | refine wpAny_of_eq look_type_mro ?_ | refine wpAny_of_eq mro_object ?_ | refine st_seq ?_ | refine st_ext ?_ | refine st_trn ?_ | refine st_read ?_ | refine st_dict ?_ | refine st_nsget ?_ | refine st_newobj ?_ | refine st_nsset ?_ | refine st_nsdel ?_ | refine st_alloc ?_ | refine st_slot ?_ | refine st_ucls ?_ | refine st_hook ?_ | refine st_lin ?_ | refine st_rm ?_ | refine st_mb ?_ | refine st_inst ?_ | refine st_gw ?_ | refine st_note ?_ | refine st_try ?_) | refine wpAny_ite_false rfl ?_ | refine wpAny_ite_true rfl ?_ | wp_delta | wp_step)
  have haS : a < s.heap.objs.size := Heap.lt_size hC
  have hNS : N < s.heap.objs.size := hn.ns.lt
  have hDa : (s.heap.objs.size : Nat) ≠ a := Nat.ne_of_gt haS
  have hDN : (s.heap.objs.size : Nat) ≠ N := Nat.ne_of_gt hNS
  have c1 : h1.get? a = some (co cd sl) := (s1.2 a haN).trans (Heap.get?_push_of_some _ hC)
  have d1 : h1.get? s.heap.objs.size = some { cls := .type "member_descriptor", data := .fields #[.str "obj" s.toks, .ref a, .builtin "proto.slot", .builtin "proto.slot#set", rawInt 0] } := (s1.2 _ hDN).trans (Heap.get?_push_size _ rfl)
  refine unhold (wpa_ucls (s := ⟨h1, s.gens, s.drawn, s.toks + 1 + 1, s.os⟩) c1 ?_ fun h2 c2 s2 => ?_)
  · show (if (decide (cd.subclasses.length > sizeLine) || decide (1 > sizeLine)) = true then some "class:memory" else none) = none
    rw [hsub]; rfl
  refine hq h2 s.heap.objs.size s.toks _ c2 (n1.sameBut s2 haN.symm) (fun b o ha hN e => ?_) (get_none_of_size (Nat.le_refl _)) ((s2.2 _ hDa).trans d1)
  exact (s2.2 b ha).trans ((s1.2 b hN).trans (Heap.get?_push_of_some _ e))

theorem wpa_quiet_loop {M : Model} {A : Around} {E : Value → Shared → Prop} {s : Shared} {α β : Type} {f : α → β → Sem (ForInStep β)} {b : β} {Q : β → Shared → Prop} {xs : Array α} (hf : ∀ x ∈ xs, ∀ R : ForInStep β → Shared → Prop, R (.yield b) s → wpAny M A (f x b) R E s) (hq : Q b s) : wpAny M A (forIn xs b f) Q E s := by
  rw [← Array.forIn_toList]
  have hf' : ∀ x ∈ xs.toList, ∀ R : ForInStep β → Shared → Prop, R (.yield b) s → wpAny M A (f x b) R E s := fun x hx => hf x (Array.mem_toList_iff.mp hx)
  generalize xs.toList = l at hf'
  induction l with
  | nil => exact wpa_for_nil hq
  | cons x l ih =>
    exact wpa_for_cons (hf' x List.mem_cons_self _ (forQ_yield (ih fun y hy => hf' y (List.mem_cons_of_mem _ hy))))
theorem st_sub {M : Model} {A : Around} {E : Value → Shared → Prop} {s : Shared} {a b} {Q} (h : Hold (wpAny M A (isSubtype a b) Q E s)) : wpAny M A (isSubtype a b) Q E s := h
theorem wpa_mro {M : Model} {A : Around} {E : Value → Shared → Prop} {s : Shared} {C : Addr} {cd : ClassData} {sl : Array (Option Value)} {Q : List Value → Shared → Prop} (hC : s.heap.get? C = some (co cd sl)) (hm : cd.mro = [.ref C, .type "object"]) (hq : Q [.ref C, .type "object"] s) : wpAny M A (mroOf (.ref C)) Q E s := by
  unfold mroOf
  refine wpAny_bind ?_
  unfold classData
  refine wpAny_bind (wpAny_load hC (wpAny_pure (wpAny_pure ?_)))
  rw [hm]; exact hq
theorem wpa_subt {M : Model} {A : Around} {E : Value → Shared → Prop} {s : Shared} {C : Addr} {base : Value} {cd : ClassData} {sl : Array (Option Value)} {Q : Bool → Shared → Prop} (hC : s.heap.get? C = some (co cd sl)) (hm : cd.mro = [.ref C, .type "object"]) (hq : Q ([Value.ref C, .type "object"].contains base) s) : wpAny M A (isSubtype (.ref C) base) Q E s := by
  unfold isSubtype
  refine wpAny_bind (wpa_mro hC hm ?_)
  dsimp -zeta only
  refine wpAny_ite_false rfl ?_
  exact wpAny_pure hq
/-- super(C, C) -/
theorem wpa_super {prog : Program} {w : World} {A : Around} {E : Value → Shared → Prop} {h : Heap} {g : Array GenState} {d : Drawn} {t : Nat} {os : OsState} {a : Addr} {cd : ClassData} {sl : Array (Option Value)} {Q : Value → Shared → Prop} (hC : h.get? a = some (co cd sl)) (hm : cd.mro = [.ref a, .type "object"])
    (hq : ∀ h' S tk, (∀ b o, h.get? b = some o → h'.get? b = some o) → h'.get? S = some { cls := .type "super", data := .fields #[.ref a, .ref a, .ref a] } → Q (.ref S) ⟨h', g, d, tk, os⟩) : wpAny (model prog w) A (call (.type "super") [.ref a, .ref a]) Q E ⟨h, g, d, t, os⟩ := by
  refine ks_callType_codesW (Q₁ := fun obj s₁ => obj = .ref h.objs.size ∧ s₁ = ⟨h.push { cls := .type "super", data := .fields #[.none, .none, .none] }, g, d, t, os⟩) F.ks_called_super (ks_wpAny_checkTypeCall_super hC rfl) F.ks_entry_super_init
    (ks_code_super_new _ _ ⟨rfl, rfl⟩) fun obj s₁ h₁ => ?_
  obtain ⟨rfl, rfl⟩ := h₁
  have up : ∀ y o, h.get? y = some o → (h.push { cls := .type "super", data := .fields #[.none, .none, .none] }).get? y = some o := fun y o e => Heap.get?_push_of_some _ e
  have hso : (h.push { cls := .type "super", data := .fields #[.none, .none, .none] }).get? h.objs.size = some { cls := .type "super", dict := none, data := .fields #[.none, .none, .none], slots := #[] } := Heap.get?_push_at rfl rfl
  have hC' := up _ _ hC
  refine ⟨⟨_, hso, rfl⟩, F.ks_initArgs_super _ _ _, ?_⟩
  unfold Builtin.«super.__init__» noKeywords
  repeat (first | (with_reducible refine ks_wpAny_isType_cls hC' rfl ?_) | (with_reducible refine ks_wpAny_super_set3 hso ?_) | (with_reducible refine st_sub ?_) | (first | with_reducible (first | refine wpAny_of_eq givesDict_object' ?_ | refine st_mkstr ?_ | refine st_nsbv ?_) | with_reducible (first | refine wpAny_bind ?_ | refine wpAny_pure ?_ | refine forQ_yield ?_ | refine forQ_done ?_ | refine wpa_for_nil ?_ | refine wpa_for_cons ?_ | refine wpAny_rule ?_ | refine wpAny_holding ?_ | refine wpAny_of_eq sub_tuple ?_ | refine wpAny_of_eq sub_dict ?_ | refine wpAny_of_eq sub_type ?_ | refine wpAny_of_eq sub_object ?_ | refine wpAny_of_eq typeOf_object ?_ | refine wpAny_of_eq look_dict_iter ?_ | refine wpAny_of_eq look_type_mro ?_ | refine wpAny_of_eq mro_object ?_ | refine st_seq ?_ | refine st_ext ?_ | refine st_trn ?_ | refine st_read ?_ | refine st_dict ?_ | refine st_nsget ?_ | refine st_newobj ?_ | refine st_nsset ?_ | refine st_nsdel ?_ | refine st_alloc ?_ | refine st_slot ?_ | refine st_ucls ?_ | refine st_hook ?_ | refine st_lin ?_ | refine st_rm ?_ | refine st_mb ?_ | refine st_inst ?_ | refine st_gw ?_ | refine st_note ?_ | refine st_try ?_) | refine wpAny_ite_false rfl ?_ | refine wpAny_ite_true rfl ?_ | wp_delta | wp_step))
  refine unhold (wpa_subt (s := ⟨_, g, d, t, os⟩) hC' hm ?_)
  rw [show [Value.ref a, Value.type "object"].contains (.ref a) = true by simp]
  repeat (first | (with_reducible refine ks_wpAny_super_set3 hso ?_) | (first | with_reducible (first | refine wpAny_of_eq givesDict_object' ?_ | refine st_mkstr ?_ | refine st_nsbv ?_) | with_reducible (first | refine wpAny_bind ?_ | refine wpAny_pure ?_ | refine forQ_yield ?_ | refine forQ_done ?_ | refine wpa_for_nil ?_ | refine wpa_for_cons ?_ | refine wpAny_rule ?_ | refine wpAny_holding ?_ | refine wpAny_of_eq sub_tuple ?_ | refine wpAny_of_eq sub_dict ?_ | refine wpAny_of_eq sub_type ?_ | refine wpAny_of_eq sub_object ?_ | refine wpAny_of_eq typeOf_object ?_ | refine wpAny_of_eq look_dict_iter ?_ | refine wpAny_of_eq look_type_mro ?_ | refine wpAny_of_eq mro_object ?_ | refine st_seq ?_ | refine st_ext ?_ | refine st_trn ?_ | refine st_read ?_ | refine st_dict ?_ | refine st_nsget ?_ | refine st_newobj ?_ | refine st_nsset ?_ | refine st_nsdel ?_ | refine st_alloc ?_ | refine st_slot ?_ | refine st_ucls ?_ | refine st_hook ?_ | refine st_lin ?_ | refine st_rm ?_ | refine st_mb ?_ | refine st_inst ?_ | refine st_gw ?_ | refine st_note ?_ | refine st_try ?_) | refine wpAny_ite_false rfl ?_ | refine wpAny_ite_true rfl ?_ | wp_delta | wp_step))
  intro h' e k
  exact ⟨rfl, hq h' h.objs.size t (fun y o ey => k y o (Nat.ne_of_lt (Heap.lt_size ey)) (up y o ey)) e⟩
theorem st_opq {M : Model} {A : Around} {E : Value → Shared → Prop} {s : Shared} {a b c} {Q} (h : Hold (wpAny M A (notOfAnOpaqueClass a b c) Q E s)) : wpAny M A (notOfAnOpaqueClass a b c) Q E s := h
/-- no package of another make stands loaded -/
noncomputable def NoPack (h : Heap) : Prop := ∃ mc, h.Ns cStatics mc ∧ mc "thirdparty.any" = none
theorem NoPack.keeps {h h' : Heap} (x : NoPack h) (k : ∀ b o, h.get? b = some o → h'.get? b = some o) : NoPack h' := by obtain ⟨mc, a, e⟩ := x; exact ⟨mc, a.keeps k, e⟩
theorem wpa_opq {M : Model} {A : Around} {E : Value → Shared → Prop} {s : Shared} {a : Addr} {b c : String} {Q : Unit → Shared → Prop} (hp : NoPack s.heap) (hq : Q () s) : wpAny M A (notOfAnOpaqueClass b c (.ref a)) Q E s := by
  refine Classical.byContradiction fun nay => ?_
  obtain ⟨mc, hn, e⟩ := hp
  refine nay ?_
  clear nay
  unfold notOfAnOpaqueClass opaqueClassAbove anyOpaqueLoaded
  refine wpAny_bind (wpAny_bind (wpAny_bind (wpAny_nsGet hn ?_)))
  rw [e]
  exact wpAny_pure (wpAny_pure (wpAny_pure hq))
theorem own_isub : classOwn (.type "object") "__init_subclass__" = pure (some (.builtin "object.__init_subclass__")) := by kernel_rfl
theorem typeOf_isub : typeOf (.builtin "object.__init_subclass__") = pure (.type "classmethod_descriptor") := by kernel_rfl
theorem look_cmd_get : typeLookup (.type "classmethod_descriptor") "__get__" = pure (some (.builtin "classmethod_descriptor.__get__")) := by rw [typeLookup_type, builtinLookup_eq_fast]; kernel_rfl
theorem owner_isub : (kfb_private% "ownerAndName") "object.__init_subclass__" = ("object", "__init_subclass__") := by first | decide +kernel | kernel_rfl
theorem wpa_cmd_get {M : Model} {A : Around} {E : Value → Shared → Prop} {h : Heap} {g : Array GenState} {d : Drawn} {t : Nat} {os : OsState} {a : Addr} {cd : ClassData} {sl : Array (Option Value)} {P : PySem.Fin → Shared → Prop} (hC : h.get? a = some (co cd sl)) (hm : cd.mro = [.ref a, .type "object"])
    (hq : P (.done (.ret (.ref h.objs.size))) ⟨h.push { cls := .type "builtin_function_or_method", data := .fields #[.builtin "object.__init_subclass__", .ref a] }, g, d, t, os⟩) :
    wpAny M A (Builtin.«classmethod_descriptor.__get__» ⟨[.builtin "object.__init_subclass__", .none, .ref a], []⟩) P E ⟨h, g, d, t, os⟩ := by
  unfold Builtin.«classmethod_descriptor.__get__»
  refine wpAny_bind (wpAny_of_eq (a := (.builtin "object.__init_subclass__", none, some (.ref a))) (by first | rfl | kernel_rfl) ?_)
  simp only [owner_isub]
  refine wpAny_bind (wpAny_of_eq (a := .ref a) rfl ?_)
  refine wpAny_bind (ks_wpAny_isType_cls hC rfl ?_)
  refine if_not' rfl ?_
  refine wpAny_bind (wpa_subt (s := ⟨h, g, d, t, os⟩) hC hm ?_)
  rw [show [Value.ref a, Value.type "object"].contains (.type "object") = true by simp]
  refine if_not' rfl ?_
  exact wpAny_bind (wpAny_newObj_type (wpAny_pure hq))
theorem st_mro {M : Model} {A : Around} {E : Value → Shared → Prop} {s : Shared} {a} {Q} (h : Hold (wpAny M A (mroOf a) Q E s)) : wpAny M A (mroOf a) Q E s := h
theorem st_call {M : Model} {A : Around} {E : Value → Shared → Prop} {s : Shared} {a b c} {Q} (h : Hold (wpAny M A (call a b c) Q E s)) : wpAny M A (call a b c) Q E s := h
-- what super gives of object's own
theorem wpa_isub {prog : Program} {w : World} {A : Around} {E : Value → Shared → Prop} {h : Heap} {g : Array GenState} {d : Drawn} {t : Nat} {os : OsState} {a S : Addr} {cd : ClassData} {sl : Array (Option Value)} {Q : Value → Shared → Prop} (hC : h.get? a = some (co cd sl)) (hm : cd.mro = [.ref a, .type "object"]) (hS : h.get? S = some { cls := .type "super", data := .fields #[.ref a, .ref a, .ref a] })
    (hp : NoPack h) (hq : ∀ h' B tk, (∀ b o, h.get? b = some o → h'.get? b = some o) → h'.get? B = some { cls := .type "builtin_function_or_method", data := .fields #[.builtin "object.__init_subclass__", .ref a] } → Q (.ref B) ⟨h', g, d, tk, os⟩) : wpAny (model prog w) A (getAttr (.ref S) "__init_subclass__") Q E ⟨h, g, d, t, os⟩ := by
  have tS : (⟨h, g, d, t, os⟩ : Shared).TypeIs (.ref S) "super" := ⟨_, hS, rfl⟩
  have hT : ∀ t', (⟨h, g, d, t', os⟩ : Shared).TypeIs (.ref S) "super" := fun _ => ⟨_, hS, rfl⟩
  have hlk := F.ks_slot_super_ga.lookup
  unfold getAttr getAttrBy
  refine wpAny_bind (wpAny_mkText (wpAny_holding (wpAny_bind (wpAny_typeOf (hT _) (wpAny_bind (wpAny_of_eq hlk ?_))))))
  show wpAny _ _ (getAttrByItsOwn (.ref S) (.str "__init_subclass__" t) (.type "super") (.builtin "super.__getattribute__") true false) _ _ _
  unfold getAttrByItsOwn hookBefore callGetattribute boundAndCalled
  refine wpAny_bind (wpAny_of_eq (show (if onTheHeap (.type "super") then typeLookup (.type "super") "__getattr__" else pure none) = pure none from rfl) ?_)
  refine wpAny_bind (wpAny_attempt (wpAny_holding ?_))
  show wpAny _ _ (bindSpecial (.builtin "super.__getattribute__") (.ref S) >>= _) _ _ _
  refine wpAny_bind (wpAny_of_eq (F.ks_slot_super_ga.bind _) ?_)
  refine wpAny_call_entry F.ks_slot_super_ga (hT _) F.ks_entry_super_ga ?_ (F.ks_gaArgs_super _ _)
  have hdt : ({ cls := .type "super", dict := none, data := .fields #[.ref a, .ref a, .ref a], slots := #[] } : Obj).data = .fields #[.ref a, .ref a, .ref a] := rfl
  have f0 : (#[.ref a, .ref a, .ref a] : Array Value)[0]? = some (.ref a) := rfl
  have f1 : (#[.ref a, .ref a, .ref a] : Array Value)[1]? = some (.ref a) := rfl
  have f2 : (#[.ref a, .ref a, .ref a] : Array Value)[2]? = some (.ref a) := rfl
  unfold Builtin.«super.__getattribute__»
  repeat (first | (with_reducible refine wpAny_field hS hdt f0 ?_) | (with_reducible refine wpAny_field hS hdt f1 ?_) | (with_reducible refine wpAny_field hS hdt f2 ?_) | (with_reducible refine st_opq ?_) | (first | with_reducible (first | refine wpAny_of_eq givesDict_object' ?_ | refine st_mkstr ?_ | refine st_nsbv ?_) | with_reducible (first | refine wpAny_bind ?_ | refine wpAny_pure ?_ | refine forQ_yield ?_ | refine forQ_done ?_ | refine wpa_for_nil ?_ | refine wpa_for_cons ?_ | refine wpAny_rule ?_ | refine wpAny_holding ?_ | refine wpAny_of_eq sub_tuple ?_ | refine wpAny_of_eq sub_dict ?_ | refine wpAny_of_eq sub_type ?_ | refine wpAny_of_eq sub_object ?_ | refine wpAny_of_eq typeOf_object ?_ | refine wpAny_of_eq look_dict_iter ?_ | refine wpAny_of_eq look_type_mro ?_ | refine wpAny_of_eq mro_object ?_ | refine st_seq ?_ | refine st_ext ?_ | refine st_trn ?_ | refine st_read ?_ | refine st_dict ?_ | refine st_nsget ?_ | refine st_newobj ?_ | refine st_nsset ?_ | refine st_nsdel ?_ | refine st_alloc ?_ | refine st_slot ?_ | refine st_ucls ?_ | refine st_hook ?_ | refine st_lin ?_ | refine st_rm ?_ | refine st_mb ?_ | refine st_inst ?_ | refine st_gw ?_ | refine st_note ?_ | refine st_try ?_) | refine wpAny_ite_false rfl ?_ | refine wpAny_ite_true rfl ?_ | wp_delta | wp_step))
  refine unhold (wpa_opq (s := ⟨h, g, d, _, os⟩) hp ?_)
  repeat (first | (with_reducible refine st_mro ?_) | (first | with_reducible (first | refine wpAny_of_eq givesDict_object' ?_ | refine st_mkstr ?_ | refine st_nsbv ?_) | with_reducible (first | refine wpAny_bind ?_ | refine wpAny_pure ?_ | refine forQ_yield ?_ | refine forQ_done ?_ | refine wpa_for_nil ?_ | refine wpa_for_cons ?_ | refine wpAny_rule ?_ | refine wpAny_holding ?_ | refine wpAny_of_eq sub_tuple ?_ | refine wpAny_of_eq sub_dict ?_ | refine wpAny_of_eq sub_type ?_ | refine wpAny_of_eq sub_object ?_ | refine wpAny_of_eq typeOf_object ?_ | refine wpAny_of_eq look_dict_iter ?_ | refine wpAny_of_eq look_type_mro ?_ | refine wpAny_of_eq mro_object ?_ | refine st_seq ?_ | refine st_ext ?_ | refine st_trn ?_ | refine st_read ?_ | refine st_dict ?_ | refine st_nsget ?_ | refine st_newobj ?_ | refine st_nsset ?_ | refine st_nsdel ?_ | refine st_alloc ?_ | refine st_slot ?_ | refine st_ucls ?_ | refine st_hook ?_ | refine st_lin ?_ | refine st_rm ?_ | refine st_mb ?_ | refine st_inst ?_ | refine st_gw ?_ | refine st_note ?_ | refine st_try ?_) | refine wpAny_ite_false rfl ?_ | refine wpAny_ite_true rfl ?_ | wp_delta | wp_step))
  refine unhold (wpa_mro (s := ⟨h, g, d, _, os⟩) hC hm ?_)
  have e : List.drop 1 (List.dropWhile (fun x => x != Value.ref a) [Value.ref a, Value.type "object"]) = [Value.type "object"] := by simp
  rw [e]
  repeat (first | (with_reducible refine st_call ?_) | (with_reducible refine wpAny_of_eq own_isub ?_) | (with_reducible refine wpAny_of_eq typeOf_isub ?_) | (with_reducible refine wpAny_of_eq look_cmd_get ?_) | (first | with_reducible (first | refine wpAny_of_eq givesDict_object' ?_ | refine st_mkstr ?_ | refine st_nsbv ?_) | with_reducible (first | refine wpAny_bind ?_ | refine wpAny_pure ?_ | refine forQ_yield ?_ | refine forQ_done ?_ | refine wpa_for_nil ?_ | refine wpa_for_cons ?_ | refine wpAny_rule ?_ | refine wpAny_holding ?_ | refine wpAny_of_eq sub_tuple ?_ | refine wpAny_of_eq sub_dict ?_ | refine wpAny_of_eq sub_type ?_ | refine wpAny_of_eq sub_object ?_ | refine wpAny_of_eq typeOf_object ?_ | refine wpAny_of_eq look_dict_iter ?_ | refine wpAny_of_eq look_type_mro ?_ | refine wpAny_of_eq mro_object ?_ | refine st_seq ?_ | refine st_ext ?_ | refine st_trn ?_ | refine st_read ?_ | refine st_dict ?_ | refine st_nsget ?_ | refine st_newobj ?_ | refine st_nsset ?_ | refine st_nsdel ?_ | refine st_alloc ?_ | refine st_slot ?_ | refine st_ucls ?_ | refine st_hook ?_ | refine st_lin ?_ | refine st_rm ?_ | refine st_mb ?_ | refine st_inst ?_ | refine st_gw ?_ | refine st_note ?_ | refine st_try ?_) | refine wpAny_ite_false rfl ?_ | refine wpAny_ite_true rfl ?_ | wp_delta | wp_step))
  rw [show (Value.ref a == Value.ref a) = true by simp, if_pos rfl]
  have tD : ∀ tk, (⟨h, g, d, tk, os⟩ : Shared).TypeIs (.builtin "object.__init_subclass__") "classmethod_descriptor" := fun _ => typeOf_isub
  refine unhold (wpAny_call_entry KFB.slot_get (tD _) KFB.entry_get (wpa_cmd_get hC hm ?_) (KFB.args_get _ _ _))
  refine ⟨_, rfl, ?_⟩
  repeat (first | with_reducible (first | refine wpAny_of_eq givesDict_object' ?_ | refine st_mkstr ?_ | refine st_nsbv ?_) | with_reducible (first | refine wpAny_bind ?_ | refine wpAny_pure ?_ | refine forQ_yield ?_ | refine forQ_done ?_ | refine wpa_for_nil ?_ | refine wpa_for_cons ?_ | refine wpAny_rule ?_ | refine wpAny_holding ?_ | refine wpAny_of_eq sub_tuple ?_ | refine wpAny_of_eq sub_dict ?_ | refine wpAny_of_eq sub_type ?_ | refine wpAny_of_eq sub_object ?_ | refine wpAny_of_eq typeOf_object ?_ | refine wpAny_of_eq look_dict_iter ?_ | refine wpAny_of_eq look_type_mro ?_ | refine wpAny_of_eq mro_object ?_ | refine st_seq ?_ | refine st_ext ?_ | refine st_trn ?_ | refine st_read ?_ | refine st_dict ?_ | refine st_nsget ?_ | refine st_newobj ?_ | refine st_nsset ?_ | refine st_nsdel ?_ | refine st_alloc ?_ | refine st_slot ?_ | refine st_ucls ?_ | refine st_hook ?_ | refine st_lin ?_ | refine st_rm ?_ | refine st_mb ?_ | refine st_inst ?_ | refine st_gw ?_ | refine st_note ?_ | refine st_try ?_) | refine wpAny_ite_false rfl ?_ | refine wpAny_ite_true rfl ?_ | wp_delta | wp_step)
  refine ⟨_, rfl, ?_⟩
  repeat (first | with_reducible (first | refine wpAny_of_eq givesDict_object' ?_ | refine st_mkstr ?_ | refine st_nsbv ?_) | with_reducible (first | refine wpAny_bind ?_ | refine wpAny_pure ?_ | refine forQ_yield ?_ | refine forQ_done ?_ | refine wpa_for_nil ?_ | refine wpa_for_cons ?_ | refine wpAny_rule ?_ | refine wpAny_holding ?_ | refine wpAny_of_eq sub_tuple ?_ | refine wpAny_of_eq sub_dict ?_ | refine wpAny_of_eq sub_type ?_ | refine wpAny_of_eq sub_object ?_ | refine wpAny_of_eq typeOf_object ?_ | refine wpAny_of_eq look_dict_iter ?_ | refine wpAny_of_eq look_type_mro ?_ | refine wpAny_of_eq mro_object ?_ | refine st_seq ?_ | refine st_ext ?_ | refine st_trn ?_ | refine st_read ?_ | refine st_dict ?_ | refine st_nsget ?_ | refine st_newobj ?_ | refine st_nsset ?_ | refine st_nsdel ?_ | refine st_alloc ?_ | refine st_slot ?_ | refine st_ucls ?_ | refine st_hook ?_ | refine st_lin ?_ | refine st_rm ?_ | refine st_mb ?_ | refine st_inst ?_ | refine st_gw ?_ | refine st_note ?_ | refine st_try ?_) | refine wpAny_ite_false rfl ?_ | refine wpAny_ite_true rfl ?_ | wp_delta | wp_step)
  exact hq _ _ _ (fun b o e => Heap.get?_push_of_some _ e) (Heap.get?_push_size _ rfl)
end Mine
end
section
open PySem PySem.W PySem.W.X PyProof.Rows PySem.Calls
set_option Elab.async false
set_option maxRecDepth 100000
set_option maxHeartbeats 1000000
namespace Mine
theorem sig_isub : Manifest.signature? "object.__init_subclass__" = some ⟨.noArgs, "object.__init_subclass__", "__init_subclass__", .cls, []⟩ := by kernel_rfl
theorem kind_isub : builtinKind "object.__init_subclass__" = some .classMethod := by kernel_rfl
theorem entry_isub : entryFor table "object.__init_subclass__" = some Builtin.«object.__init_subclass__» := entryFor_of_tree (by kernel_rfl)
theorem st_chk {M : Model} {A : Around} {E : Value → Shared → Prop} {s : Shared} {a b c} {Q} (h : Hold (wpAny M A (Bind.checkArgs a b c) Q E s)) : wpAny M A (Bind.checkArgs a b c) Q E s := h
theorem sub_type_module : isSubtype (.type "type") (.type "module") = pure false := by rw [isSubtype_type]; kernel_rfl
end Mine
end
section
open PySem PySem.W PySem.W.X PyProof.Rows PySem.Calls
set_option Elab.async false
set_option maxRecDepth 100000
set_option maxHeartbeats 1000000
namespace Mine
/-- the bound hook -/
theorem wpa_hook {prog : Program} {w : World} {A : Around} {E : Value → Shared → Prop} {h : Heap} {g : Array GenState} {d : Drawn} {t : Nat} {os : OsState} {a B : Addr} {cd : ClassData} {sl : Array (Option Value)} {Q : Value → Shared → Prop} {q : Str} {tq : Tok} (hC : h.get? a = some (co cd sl)) (hm : cd.mro = [.ref a, .type "object"]) (hs3 : sl[3]? = some (some (.str q tq))) (hp : NoPack h) (hqn : cd.qualname = "cmp_to_key.<locals>.K")
    (hB : h.get? B = some { cls := .type "builtin_function_or_method", data := .fields #[.builtin "object.__init_subclass__", .ref a] }) (hq : ∀ tk, Q .none ⟨h, g, d, tk, os⟩) :
    wpAny (model prog w) A (call (.ref B) []) Q E ⟨h, g, d, t, os⟩ := by
  refine wpAny_call (codeAny_of_tree ?_)
  show wpAny _ A.in1 (callAny (.ref B) ⟨[], []⟩) _ _ _
  simp only [callAny]
  refine wpAny_bind (wpAny_load hB ?_)
  refine if_so' rfl ?_
  refine if_so' rfl ?_
  unfold checkBoundCall
  rw [sig_isub, kind_isub]
  repeat (first | (with_reducible refine st_sub ?_) | (with_reducible refine st_chk ?_) | (with_reducible refine ks_wpAny_isType_cls hC rfl ?_) | (first | with_reducible (first | refine wpAny_of_eq givesDict_object' ?_ | refine st_mkstr ?_ | refine st_nsbv ?_) | with_reducible (first | refine wpa_bindK ?_ | refine kp_out ?_ | refine wpAny_pure ?_ | refine forQ_yield ?_ | refine forQ_done ?_ | refine wpa_for_nil ?_ | refine wpa_for_cons ?_ | refine wpAny_rule ?_ | refine wpAny_holding ?_ | refine wpAny_of_eq sub_tuple ?_ | refine wpAny_of_eq sub_dict ?_ | refine wpAny_of_eq sub_type ?_ | refine wpAny_of_eq sub_object ?_ | refine wpAny_of_eq typeOf_object ?_ | refine wpAny_of_eq look_dict_iter ?_ | refine wpAny_of_eq look_type_mro ?_ | refine wpAny_of_eq mro_object ?_ | refine st_seq ?_ | refine st_ext ?_ | refine st_trn ?_ | refine st_read ?_ | refine st_dict ?_ | refine st_nsget ?_ | refine st_newobj ?_ | refine st_nsset ?_ | refine st_nsdel ?_ | refine st_alloc ?_ | refine st_slot ?_ | refine st_ucls ?_ | refine st_hook ?_ | refine st_lin ?_ | refine st_rm ?_ | refine st_mb ?_ | refine st_inst ?_ | refine st_gw ?_ | refine st_note ?_ | refine st_try ?_) | refine wpAny_ite_false rfl ?_ | refine wpAny_ite_true rfl ?_ | wp_delta | wp_step))
  refine unhold (wpAny_of_eq sub_type_module ?_)
  repeat (first | (with_reducible refine st_chk ?_) | (with_reducible refine ks_wpAny_isType_cls hC rfl ?_) | (first | with_reducible (first | refine wpAny_of_eq givesDict_object' ?_ | refine st_mkstr ?_ | refine st_nsbv ?_) | with_reducible (first | refine wpa_bindK ?_ | refine kp_out ?_ | refine wpAny_pure ?_ | refine forQ_yield ?_ | refine forQ_done ?_ | refine wpa_for_nil ?_ | refine wpa_for_cons ?_ | refine wpAny_rule ?_ | refine wpAny_holding ?_ | refine wpAny_of_eq sub_tuple ?_ | refine wpAny_of_eq sub_dict ?_ | refine wpAny_of_eq sub_type ?_ | refine wpAny_of_eq sub_object ?_ | refine wpAny_of_eq typeOf_object ?_ | refine wpAny_of_eq look_dict_iter ?_ | refine wpAny_of_eq look_type_mro ?_ | refine wpAny_of_eq mro_object ?_ | refine st_seq ?_ | refine st_ext ?_ | refine st_trn ?_ | refine st_read ?_ | refine st_dict ?_ | refine st_nsget ?_ | refine st_newobj ?_ | refine st_nsset ?_ | refine st_nsdel ?_ | refine st_alloc ?_ | refine st_slot ?_ | refine st_ucls ?_ | refine st_hook ?_ | refine st_lin ?_ | refine st_rm ?_ | refine st_mb ?_ | refine st_inst ?_ | refine st_gw ?_ | refine st_note ?_ | refine st_try ?_) | refine wpAny_ite_false rfl ?_ | refine wpAny_ite_true rfl ?_ | wp_delta | wp_step))
  rw [hqn]
  refine unhold (wpAny_of_eq (a := ()) (by kernel_rfl) ?_)
  refine wpAny_pure ⟨Code.quiet_builtin _ (by decide +kernel), codeAny_builtin entry_isub ?_⟩
  unfold Builtin.«object.__init_subclass__»
  repeat (first | with_reducible (first | refine wpAny_of_eq givesDict_object' ?_ | refine st_mkstr ?_ | refine st_nsbv ?_) | with_reducible (first | refine wpa_bindK ?_ | refine kp_out ?_ | refine wpAny_pure ?_ | refine forQ_yield ?_ | refine forQ_done ?_ | refine wpa_for_nil ?_ | refine wpa_for_cons ?_ | refine wpAny_rule ?_ | refine wpAny_holding ?_ | refine wpAny_of_eq sub_tuple ?_ | refine wpAny_of_eq sub_dict ?_ | refine wpAny_of_eq sub_type ?_ | refine wpAny_of_eq sub_object ?_ | refine wpAny_of_eq typeOf_object ?_ | refine wpAny_of_eq look_dict_iter ?_ | refine wpAny_of_eq look_type_mro ?_ | refine wpAny_of_eq mro_object ?_ | refine st_seq ?_ | refine st_ext ?_ | refine st_trn ?_ | refine st_read ?_ | refine st_dict ?_ | refine st_nsget ?_ | refine st_newobj ?_ | refine st_nsset ?_ | refine st_nsdel ?_ | refine st_alloc ?_ | refine st_slot ?_ | refine st_ucls ?_ | refine st_hook ?_ | refine st_lin ?_ | refine st_rm ?_ | refine st_mb ?_ | refine st_inst ?_ | refine st_gw ?_ | refine st_note ?_ | refine st_try ?_) | refine wpAny_ite_false rfl ?_ | refine wpAny_ite_true rfl ?_ | wp_delta | wp_step)
  exact hq _
end Mine
end
section
open PySem PySem.W PySem.W.X PyProof.Rows PySem.Calls
set_option Elab.async false
set_option maxRecDepth 100000
set_option maxHeartbeats 1000000
namespace Mine

noncomputable def Plainv (h : Heap) (v : Value) : Prop := v = .none ∨ (∃ i t, v = .int i t) ∨ (∃ x t, v = .str x t) ∨ ∃ b o T, v = .ref b ∧ h.get? b = some o ∧ o.cls = .type T ∧ (T = "list" ∨ T = "tuple" ∨ T = "function" ∨ T = "member_descriptor")
theorem nsGet_at {prog : Program} {w : World} {A : Around} {E : Value → Shared → Prop} {Q : Option Value → Shared → Prop} {s : Shared} {a : Addr} {x : Str} {m : Str → Option Value} {v : Option Value} (hn : s.heap.Ns a m) (hm : m x = v) (hq : Q v s) : wpAny (model prog w) A (nsGet a x) Q E s := wpAny_nsGet hn (hm ▸ hq)
theorem no_set_none : typeLookup (.type "NoneType") "__set_name__" = pure none := by rw [typeLookup_type, builtinLookup_eq_fast]; kernel_rfl
theorem no_set_int : typeLookup (.type "int") "__set_name__" = pure none := by rw [typeLookup_type, builtinLookup_eq_fast]; kernel_rfl
theorem no_set_str : typeLookup (.type "str") "__set_name__" = pure none := by rw [typeLookup_type, builtinLookup_eq_fast]; kernel_rfl
theorem no_set_list : typeLookup (.type "list") "__set_name__" = pure none := by rw [typeLookup_type, builtinLookup_eq_fast]; kernel_rfl
theorem no_set_tuple : typeLookup (.type "tuple") "__set_name__" = pure none := by rw [typeLookup_type, builtinLookup_eq_fast]; kernel_rfl
theorem no_set_function : typeLookup (.type "function") "__set_name__" = pure none := by rw [typeLookup_type, builtinLookup_eq_fast]; kernel_rfl
theorem no_set_member : typeLookup (.type "member_descriptor") "__set_name__" = pure none := by rw [typeLookup_type, builtinLookup_eq_fast]; kernel_rfl
theorem wpa_noset {M : Model} {A : Around} {E : Value → Shared → Prop} {s : Shared} {v : Value} {Q : Option Value → Shared → Prop} (p : Plainv s.heap v) (hq : Q none s) : wpAny M A (specialOf v "__set_name__") Q E s := by
  unfold specialOf
  rcases p with rfl | ⟨i, t, rfl⟩ | ⟨x, t, rfl⟩ | ⟨b, o, T, rfl, ho, hc, hT⟩
  · exact wpAny_bind (wpAny_of_eq (a := .type "NoneType") rfl (wpAny_of_eq no_set_none hq))
  · exact wpAny_bind (wpAny_of_eq (a := .type "int") rfl (wpAny_of_eq no_set_int hq))
  · exact wpAny_bind (wpAny_of_eq (a := .type "str") rfl (wpAny_of_eq no_set_str hq))
  · refine wpAny_bind (wpAny_typeOf (T := T) ⟨o, ho, hc⟩ ?_)
    rcases hT with rfl | rfl | rfl | rfl
    · exact wpAny_of_eq no_set_list hq
    · exact wpAny_of_eq no_set_tuple hq
    · exact wpAny_of_eq no_set_function hq
    · exact wpAny_of_eq no_set_member hq
theorem plainv_laid {h : Heap} {v : Value} (p : Plainv h v) (x : Str) (t : Tok) : Builtin.laidUnderItsOwnName (.str x t) v = false := by
  rcases p with rfl | ⟨i, t, rfl⟩ | ⟨x, t, rfl⟩ | ⟨b, o, T, rfl, _⟩ <;> rfl
theorem Plainv.keeps {h h' : Heap} {v : Value} (p : Plainv h v) (k : ∀ b o, h.get? b = some o → h'.get? b = some o) : Plainv h' v := by
  rcases p with p | p | p | ⟨b, o, T, e, ho, r⟩
  · exact .inl p
  · exact .inr (.inl p)
  · exact .inr (.inr (.inl p))
  · exact .inr (.inr (.inr ⟨b, o, T, e, k b o ho, r⟩))
theorem ns1_entry {h : Heap} {N : Addr} {m : Str → Option Value} {o : Obj} {es : Array DictEntry} {ep : Nat} (hn : h.Ns1 N m) (ho : h.get? N = some o) (hd : o.data = .dict es ep) : ∀ e ∈ es, ∃ x t, e.key = .str x t ∧ m x = some e.val := by
  refine Classical.byContradiction fun nay => ?_
  obtain ⟨o', es', ep', ho', hd', hk, hu, hm⟩ := hn
  refine nay ?_
  clear nay
  rw [ho] at ho'; cases ho'; rw [hd] at hd'; cases hd'
  intro e he
  refine Classical.byContradiction fun nay => ?_
  obtain ⟨x, t, hx⟩ := hk e he
  refine nay ?_
  clear nay
  refine ⟨x, t, hx, ?_⟩
  rw [← hm x]
  have key : ∀ l : List DictEntry, (l.Pairwise fun a b => ∀ n, a.key.isStr n = true → b.key.isStr n = true → False) → e ∈ l → l.find? (fun d => Value.isStr d.key x) = some e := by
    intro l hp hm
    induction l with
    | nil => cases hm
    | cons d r ih =>
      rw [List.find?_cons]
      by_cases hd : Value.isStr d.key x = true
      · rw [hd]
        rcases List.mem_cons.mp hm with rfl | hm'
        · rfl
        · exact ((List.pairwise_cons.mp hp).1 e hm' x hd (by rw [hx]; simp [Value.isStr])).elim
      · rw [Bool.not_eq_true] at hd
        rw [hd]
        rcases List.mem_cons.mp hm with rfl | hm'
        · rw [hx] at hd; simp [Value.isStr] at hd
        · exact ih (List.pairwise_cons.mp hp).2 hm'
  have := key es.toList hu (Array.mem_toList_iff.mpr he)
  simp only [nsFind, findBy]
  rw [← Array.find?_toList, this]
  rfl
theorem type_new {prog : Program} {w : World} {A : Around} {E : Value → Shared → Prop} {Q : PySem.Fin → Shared → Prop} {h : Heap} {g : Array GenState} {d : Drawn} {t : Nat} {os : OsState} {bT nsA sl : Addr} {tk to : Tok} {es : Array DictEntry} {ep n : Nat} {m : Str → Option Value} {e : DictEntry}
    (hb : h.get? bT = some (seqObj "tuple" #[.type "object"] 0)) (hn : h.get? nsA = some { cls := .type "dict", data := .dict es ep }) (hn1 : h.Ns1 nsA m)  (hne : (nsA == sysModules) = false) (hes : es.isEmpty = false)
    (he : es.find? (fun x => x.key.isStr "__slots__") = some e) (hv : e.val = .ref sl) (hl : h.get? sl = some (seqObj "list" #[.str "obj" to] n)) (hno : es.any (fun x => x.key.isStr "obj") = false) (hsz : es.size ≤ 64) (hmod : es.any (fun x => x.key.isStr "__module__") = true) (hdel : es.any (fun x => x.key.isStr "__del__") = false)
    {q : Str} {tq : Tok} (mq : m "__qualname__" = some (.str q tq)) (md : m "__doc__" = none) (mnew : m "__new__" = none) (mis : m "__init_subclass__" = none) (mcg : m "__class_getitem__" = none) (mcc : m "__classcell__" = none) (mdc : m "__classdictcell__" = none) (mobj : m "obj" = none)
    {ve vh : Value} (meq : m "__eq__" = some ve) (mhash : m "__hash__" = some vh) (hvals : ∀ x v, m x = some v → Plainv h v) (hpk : NoPack h) (L : List Str) (hL : ∀ x, m x ≠ none → x ∈ L) (hLz : L.length ≤ 900) (hqn : q = "cmp_to_key.<locals>.K")
    (hQ : ∀ h' a N D tD tk' m', h'.get? a = some (co { name := "K", bases := [.type "object"], mro := [.ref a, .type "object"], ns := N, qualname := q, hasDict := false, slotNames := ["obj"] } #[some (.ref bT), none, some (.str "K" tk), some (.str q tq), some (.builtin "object.__new__"), some (.bool false)]) → h'.Ns1 N m' → h.get? N = none →
      (∀ x : Str, x ≠ "__qualname__" → x ≠ "obj" → x ≠ "__doc__" → m' x = m x) → m' "obj" = some (.ref D) → h'.get? D = some { cls := .type "member_descriptor", data := .fields #[.str "obj" tD, .ref a, .builtin "proto.slot", .builtin "proto.slot#set", rawInt 0] } →
      (∀ b o, h.get? b = some o → h'.get? b = some o) → Q (.done (.ret (.ref a))) ⟨h', g, d, tk', os⟩)
    : wpAny (model prog w) A (Builtin.«type.__new__» ⟨[.type "type", .str "K" tk, .ref bT, .ref nsA], []⟩) Q E ⟨h, g, d, t, os⟩ := by
  have tT : (⟨h, g, d, t, os⟩ : Shared).TypeIs (.ref bT) "tuple" := ⟨_, hb, rfl⟩
  have tD : (⟨h, g, d, t, os⟩ : Shared).TypeIs (.ref nsA) "dict" := ⟨_, hn, rfl⟩
  unfold Builtin.«type.__new__»
  repeat (first | with_reducible (first | refine wpa_bindK ?_ | refine kp_out ?_ | refine wpAny_pure ?_ | refine forQ_yield ?_ | refine forQ_done ?_ | refine wpa_for_nil ?_ | refine wpa_for_cons ?_ | refine wpAny_rule ?_ | refine wpAny_holding ?_ | refine wpAny_of_eq sub_tuple ?_ | refine wpAny_of_eq sub_dict ?_ | refine wpAny_of_eq sub_type ?_ | refine wpAny_of_eq sub_object ?_ | refine wpAny_of_eq typeOf_object ?_ | refine wpAny_of_eq look_dict_iter ?_ | refine wpAny_of_eq look_type_mro ?_ | refine wpAny_of_eq mro_object ?_ | refine st_seq ?_ | refine st_ext ?_ | refine st_trn ?_ | refine st_read ?_ | refine st_dict ?_ | refine st_nsget ?_ | refine st_newobj ?_ | refine st_nsset ?_ | refine st_nsdel ?_ | refine st_alloc ?_ | refine st_slot ?_ | refine st_ucls ?_ | refine st_hook ?_ | refine st_lin ?_ | refine st_rm ?_ | refine st_mb ?_ | refine st_inst ?_ | refine st_gw ?_ | refine st_note ?_ | refine st_try ?_) | refine wpAny_ite_false rfl ?_ | refine wpAny_ite_true rfl ?_ | wp_delta | wp_step)
  refine unhold (wpAny_seqItems (o := seqObj "tuple" #[.type "object"] 0) hb rfl ?_)
  repeat (first | with_reducible (first | refine wpa_bindK ?_ | refine kp_out ?_ | refine wpAny_pure ?_ | refine forQ_yield ?_ | refine forQ_done ?_ | refine wpa_for_nil ?_ | refine wpa_for_cons ?_ | refine wpAny_rule ?_ | refine wpAny_holding ?_ | refine wpAny_of_eq sub_tuple ?_ | refine wpAny_of_eq sub_dict ?_ | refine wpAny_of_eq sub_type ?_ | refine wpAny_of_eq sub_object ?_ | refine wpAny_of_eq typeOf_object ?_ | refine wpAny_of_eq look_dict_iter ?_ | refine wpAny_of_eq look_type_mro ?_ | refine wpAny_of_eq mro_object ?_ | refine st_seq ?_ | refine st_ext ?_ | refine st_trn ?_ | refine st_read ?_ | refine st_dict ?_ | refine st_nsget ?_ | refine st_newobj ?_ | refine st_nsset ?_ | refine st_nsdel ?_ | refine st_alloc ?_ | refine st_slot ?_ | refine st_ucls ?_ | refine st_hook ?_ | refine st_lin ?_ | refine st_rm ?_ | refine st_mb ?_ | refine st_inst ?_ | refine st_gw ?_ | refine st_note ?_ | refine st_try ?_) | refine wpAny_ite_false rfl ?_ | refine wpAny_ite_true rfl ?_ | wp_delta | wp_step)
  refine unhold (wpAny_of_eq turned_object ?_)
  repeat (first | with_reducible (first | refine wpa_bindK ?_ | refine kp_out ?_ | refine wpAny_pure ?_ | refine forQ_yield ?_ | refine forQ_done ?_ | refine wpa_for_nil ?_ | refine wpa_for_cons ?_ | refine wpAny_rule ?_ | refine wpAny_holding ?_ | refine wpAny_of_eq sub_tuple ?_ | refine wpAny_of_eq sub_dict ?_ | refine wpAny_of_eq sub_type ?_ | refine wpAny_of_eq sub_object ?_ | refine wpAny_of_eq typeOf_object ?_ | refine wpAny_of_eq look_dict_iter ?_ | refine wpAny_of_eq look_type_mro ?_ | refine wpAny_of_eq mro_object ?_ | refine st_seq ?_ | refine st_ext ?_ | refine st_trn ?_ | refine st_read ?_ | refine st_dict ?_ | refine st_nsget ?_ | refine st_newobj ?_ | refine st_nsset ?_ | refine st_nsdel ?_ | refine st_alloc ?_ | refine st_slot ?_ | refine st_ucls ?_ | refine st_hook ?_ | refine st_lin ?_ | refine st_rm ?_ | refine st_mb ?_ | refine st_inst ?_ | refine st_gw ?_ | refine st_note ?_ | refine st_try ?_) | refine wpAny_ite_false rfl ?_ | refine wpAny_ite_true rfl ?_ | wp_delta | wp_step)
  refine unhold (wpAny_of_eq extended_object ?_)
  repeat (first | with_reducible (first | refine wpa_bindK ?_ | refine kp_out ?_ | refine wpAny_pure ?_ | refine forQ_yield ?_ | refine forQ_done ?_ | refine wpa_for_nil ?_ | refine wpa_for_cons ?_ | refine wpAny_rule ?_ | refine wpAny_holding ?_ | refine wpAny_of_eq sub_tuple ?_ | refine wpAny_of_eq sub_dict ?_ | refine wpAny_of_eq sub_type ?_ | refine wpAny_of_eq sub_object ?_ | refine wpAny_of_eq typeOf_object ?_ | refine wpAny_of_eq look_dict_iter ?_ | refine wpAny_of_eq look_type_mro ?_ | refine wpAny_of_eq mro_object ?_ | refine st_seq ?_ | refine st_ext ?_ | refine st_trn ?_ | refine st_read ?_ | refine st_dict ?_ | refine st_nsget ?_ | refine st_newobj ?_ | refine st_nsset ?_ | refine st_nsdel ?_ | refine st_alloc ?_ | refine st_slot ?_ | refine st_ucls ?_ | refine st_hook ?_ | refine st_lin ?_ | refine st_rm ?_ | refine st_mb ?_ | refine st_inst ?_ | refine st_gw ?_ | refine st_note ?_ | refine st_try ?_) | refine wpAny_ite_false rfl ?_ | refine wpAny_ite_true rfl ?_ | wp_delta | wp_step)
  refine unhold (wpAny_dictEntries hn rfl ?_)
  repeat (first | with_reducible (first | refine wpa_bindK ?_ | refine kp_out ?_ | refine wpAny_pure ?_ | refine forQ_yield ?_ | refine forQ_done ?_ | refine wpa_for_nil ?_ | refine wpa_for_cons ?_ | refine wpAny_rule ?_ | refine wpAny_holding ?_ | refine wpAny_of_eq sub_tuple ?_ | refine wpAny_of_eq sub_dict ?_ | refine wpAny_of_eq sub_type ?_ | refine wpAny_of_eq sub_object ?_ | refine wpAny_of_eq typeOf_object ?_ | refine wpAny_of_eq look_dict_iter ?_ | refine wpAny_of_eq look_type_mro ?_ | refine wpAny_of_eq mro_object ?_ | refine st_seq ?_ | refine st_ext ?_ | refine st_trn ?_ | refine st_read ?_ | refine st_dict ?_ | refine st_nsget ?_ | refine st_newobj ?_ | refine st_nsset ?_ | refine st_nsdel ?_ | refine st_alloc ?_ | refine st_slot ?_ | refine st_ucls ?_ | refine st_hook ?_ | refine st_lin ?_ | refine st_rm ?_ | refine st_mb ?_ | refine st_inst ?_ | refine st_gw ?_ | refine st_note ?_ | refine st_try ?_) | refine wpAny_ite_false rfl ?_ | refine wpAny_ite_true rfl ?_ | wp_delta | wp_step)
  refine unhold (slots_read (s := ⟨h, g, d, t, os⟩) he hv hl hno fun h1 k1 => ?_)
  repeat (first | with_reducible (first | refine wpa_bindK ?_ | refine kp_out ?_ | refine wpAny_pure ?_ | refine forQ_yield ?_ | refine forQ_done ?_ | refine wpa_for_nil ?_ | refine wpa_for_cons ?_ | refine wpAny_rule ?_ | refine wpAny_holding ?_ | refine wpAny_of_eq sub_tuple ?_ | refine wpAny_of_eq sub_dict ?_ | refine wpAny_of_eq sub_type ?_ | refine wpAny_of_eq sub_object ?_ | refine wpAny_of_eq typeOf_object ?_ | refine wpAny_of_eq look_dict_iter ?_ | refine wpAny_of_eq look_type_mro ?_ | refine wpAny_of_eq mro_object ?_ | refine st_seq ?_ | refine st_ext ?_ | refine st_trn ?_ | refine st_read ?_ | refine st_dict ?_ | refine st_nsget ?_ | refine st_newobj ?_ | refine st_nsset ?_ | refine st_nsdel ?_ | refine st_alloc ?_ | refine st_slot ?_ | refine st_ucls ?_ | refine st_hook ?_ | refine st_lin ?_ | refine st_rm ?_ | refine st_mb ?_ | refine st_inst ?_ | refine st_gw ?_ | refine st_note ?_ | refine st_try ?_) | refine wpAny_ite_false rfl ?_ | refine wpAny_ite_true rfl ?_ | wp_delta | wp_step)
  refine unhold (wpAny_newObj_type ?_ (by show es.size ≤ sizeLine + 1; rw [sizeLine_eq]; omega))
  generalize hH2 : h1.push { cls := .type "dict", dict := none, data := .dict es } = h2
  repeat (first | with_reducible (first | refine wpa_bindK ?_ | refine kp_out ?_ | refine wpAny_pure ?_ | refine forQ_yield ?_ | refine forQ_done ?_ | refine wpa_for_nil ?_ | refine wpa_for_cons ?_ | refine wpAny_rule ?_ | refine wpAny_holding ?_ | refine wpAny_of_eq sub_tuple ?_ | refine wpAny_of_eq sub_dict ?_ | refine wpAny_of_eq sub_type ?_ | refine wpAny_of_eq sub_object ?_ | refine wpAny_of_eq typeOf_object ?_ | refine wpAny_of_eq look_dict_iter ?_ | refine wpAny_of_eq look_type_mro ?_ | refine wpAny_of_eq mro_object ?_ | refine st_seq ?_ | refine st_ext ?_ | refine st_trn ?_ | refine st_read ?_ | refine st_dict ?_ | refine st_nsget ?_ | refine st_newobj ?_ | refine st_nsset ?_ | refine st_nsdel ?_ | refine st_alloc ?_ | refine st_slot ?_ | refine st_ucls ?_ | refine st_hook ?_ | refine st_lin ?_ | refine st_rm ?_ | refine st_mb ?_ | refine st_inst ?_ | refine st_gw ?_ | refine st_note ?_ | refine st_try ?_) | refine wpAny_ite_false rfl ?_ | refine wpAny_ite_true rfl ?_ | wp_delta | wp_step)
  have hN2 : h2.get? h1.objs.size = some { cls := .type "dict", data := .dict es } := by rw [← hH2]; exact Heap.get?_push_size _ rfl
  have n2 : h2.Ns1 h1.objs.size m := by
    refine Classical.byContradiction fun nay => ?_
    obtain ⟨o', es', ep', ho', hd', hk, hu, hm⟩ := hn1
    refine nay ?_
    clear nay
    rw [hn] at ho'; cases ho'; cases hd'
    exact ⟨_, es, 0, hN2, rfl, hk, hu, hm⟩
  have freshN : h.get? h1.objs.size = none := by
    cases q : h.get? h1.objs.size with
    | none => rfl
    | some o => exact absurd (Heap.lt_size (k1 _ _ q)) (Nat.lt_irrefl _)
  generalize hN : h1.objs.size = N2 at hN2 n2 freshN ⊢
  refine wpAny_ite_false (by kernel_rfl) ?_
  repeat (first | with_reducible (first | refine wpa_bindK ?_ | refine kp_out ?_ | refine wpAny_pure ?_ | refine forQ_yield ?_ | refine forQ_done ?_ | refine wpa_for_nil ?_ | refine wpa_for_cons ?_ | refine wpAny_rule ?_ | refine wpAny_holding ?_ | refine wpAny_of_eq sub_tuple ?_ | refine wpAny_of_eq sub_dict ?_ | refine wpAny_of_eq sub_type ?_ | refine wpAny_of_eq sub_object ?_ | refine wpAny_of_eq typeOf_object ?_ | refine wpAny_of_eq look_dict_iter ?_ | refine wpAny_of_eq look_type_mro ?_ | refine wpAny_of_eq mro_object ?_ | refine st_seq ?_ | refine st_ext ?_ | refine st_trn ?_ | refine st_read ?_ | refine st_dict ?_ | refine st_nsget ?_ | refine st_newobj ?_ | refine st_nsset ?_ | refine st_nsdel ?_ | refine st_alloc ?_ | refine st_slot ?_ | refine st_ucls ?_ | refine st_hook ?_ | refine st_lin ?_ | refine st_rm ?_ | refine st_mb ?_ | refine st_inst ?_ | refine st_gw ?_ | refine st_note ?_ | refine st_try ?_) | refine wpAny_ite_false rfl ?_ | refine wpAny_ite_true rfl ?_ | wp_delta | wp_step)
  refine wpAny_ite_false (by kernel_rfl) ?_
  repeat (first | with_reducible (first | refine wpa_bindK ?_ | refine kp_out ?_ | refine wpAny_pure ?_ | refine forQ_yield ?_ | refine forQ_done ?_ | refine wpa_for_nil ?_ | refine wpa_for_cons ?_ | refine wpAny_rule ?_ | refine wpAny_holding ?_ | refine wpAny_of_eq sub_tuple ?_ | refine wpAny_of_eq sub_dict ?_ | refine wpAny_of_eq sub_type ?_ | refine wpAny_of_eq sub_object ?_ | refine wpAny_of_eq typeOf_object ?_ | refine wpAny_of_eq look_dict_iter ?_ | refine wpAny_of_eq look_type_mro ?_ | refine wpAny_of_eq mro_object ?_ | refine st_seq ?_ | refine st_ext ?_ | refine st_trn ?_ | refine st_read ?_ | refine st_dict ?_ | refine st_nsget ?_ | refine st_newobj ?_ | refine st_nsset ?_ | refine st_nsdel ?_ | refine st_alloc ?_ | refine st_slot ?_ | refine st_ucls ?_ | refine st_hook ?_ | refine st_lin ?_ | refine st_rm ?_ | refine st_mb ?_ | refine st_inst ?_ | refine st_gw ?_ | refine st_note ?_ | refine st_try ?_) | refine wpAny_ite_false rfl ?_ | refine wpAny_ite_true rfl ?_ | wp_delta | wp_step)
  refine unhold (nsGet_at n2.ns mq ?_)
  repeat (first | with_reducible (first | refine wpa_bindK ?_ | refine kp_out ?_ | refine wpAny_pure ?_ | refine forQ_yield ?_ | refine forQ_done ?_ | refine wpa_for_nil ?_ | refine wpa_for_cons ?_ | refine wpAny_rule ?_ | refine wpAny_holding ?_ | refine wpAny_of_eq sub_tuple ?_ | refine wpAny_of_eq sub_dict ?_ | refine wpAny_of_eq sub_type ?_ | refine wpAny_of_eq sub_object ?_ | refine wpAny_of_eq typeOf_object ?_ | refine wpAny_of_eq look_dict_iter ?_ | refine wpAny_of_eq look_type_mro ?_ | refine wpAny_of_eq mro_object ?_ | refine st_seq ?_ | refine st_ext ?_ | refine st_trn ?_ | refine st_read ?_ | refine st_dict ?_ | refine st_nsget ?_ | refine st_newobj ?_ | refine st_nsset ?_ | refine st_nsdel ?_ | refine st_alloc ?_ | refine st_slot ?_ | refine st_ucls ?_ | refine st_hook ?_ | refine st_lin ?_ | refine st_rm ?_ | refine st_mb ?_ | refine st_inst ?_ | refine st_gw ?_ | refine st_note ?_ | refine st_try ?_) | refine wpAny_ite_false rfl ?_ | refine wpAny_ite_true rfl ?_ | wp_delta | wp_step)
  refine unhold (nsGet_at n2.ns mq ?_)
  repeat (first | with_reducible (first | refine wpa_bindK ?_ | refine kp_out ?_ | refine wpAny_pure ?_ | refine forQ_yield ?_ | refine forQ_done ?_ | refine wpa_for_nil ?_ | refine wpa_for_cons ?_ | refine wpAny_rule ?_ | refine wpAny_holding ?_ | refine wpAny_of_eq sub_tuple ?_ | refine wpAny_of_eq sub_dict ?_ | refine wpAny_of_eq sub_type ?_ | refine wpAny_of_eq sub_object ?_ | refine wpAny_of_eq typeOf_object ?_ | refine wpAny_of_eq look_dict_iter ?_ | refine wpAny_of_eq look_type_mro ?_ | refine wpAny_of_eq mro_object ?_ | refine st_seq ?_ | refine st_ext ?_ | refine st_trn ?_ | refine st_read ?_ | refine st_dict ?_ | refine st_nsget ?_ | refine st_newobj ?_ | refine st_nsset ?_ | refine st_nsdel ?_ | refine st_alloc ?_ | refine st_slot ?_ | refine st_ucls ?_ | refine st_hook ?_ | refine st_lin ?_ | refine st_rm ?_ | refine st_mb ?_ | refine st_inst ?_ | refine st_gw ?_ | refine st_note ?_ | refine st_try ?_) | refine wpAny_ite_false rfl ?_ | refine wpAny_ite_true rfl ?_ | wp_delta | wp_step)
  refine unhold (nsGet_at n2.ns md ?_)
  repeat (first | with_reducible (first | refine wpa_bindK ?_ | refine kp_out ?_ | refine wpAny_pure ?_ | refine forQ_yield ?_ | refine forQ_done ?_ | refine wpa_for_nil ?_ | refine wpa_for_cons ?_ | refine wpAny_rule ?_ | refine wpAny_holding ?_ | refine wpAny_of_eq sub_tuple ?_ | refine wpAny_of_eq sub_dict ?_ | refine wpAny_of_eq sub_type ?_ | refine wpAny_of_eq sub_object ?_ | refine wpAny_of_eq typeOf_object ?_ | refine wpAny_of_eq look_dict_iter ?_ | refine wpAny_of_eq look_type_mro ?_ | refine wpAny_of_eq mro_object ?_ | refine st_seq ?_ | refine st_ext ?_ | refine st_trn ?_ | refine st_read ?_ | refine st_dict ?_ | refine st_nsget ?_ | refine st_newobj ?_ | refine st_nsset ?_ | refine st_nsdel ?_ | refine st_alloc ?_ | refine st_slot ?_ | refine st_ucls ?_ | refine st_hook ?_ | refine st_lin ?_ | refine st_rm ?_ | refine st_mb ?_ | refine st_inst ?_ | refine st_gw ?_ | refine st_note ?_ | refine st_try ?_) | refine wpAny_ite_false rfl ?_ | refine wpAny_ite_true rfl ?_ | wp_delta | wp_step)
  refine unhold (wpAny_alloc ?_)
  have haN : h2.objs.size ≠ N2 := Nat.ne_of_gt n2.ns.lt
  generalize hcd : ({ name := Str.ofString "K", bases := _, mro := [], ns := N2, qualname := q } : ClassData) = cd0
  have hcd' : cd0 = { name := Str.ofString "K", bases := [.type "object"], mro := [], ns := N2, qualname := q } := by rw [← hcd]; rfl
  clear hcd
  subst hcd'
  have c3 : (h2.push (co { name := Str.ofString "K", bases := [.type "object"], mro := [], ns := N2, qualname := q } #[])).get? h2.objs.size = some (co { name := Str.ofString "K", bases := [.type "object"], mro := [], ns := N2, qualname := q } #[]) := Heap.get?_push_size _ rfl
  have n3 : (h2.push (co { name := Str.ofString "K", bases := [.type "object"], mro := [], ns := N2, qualname := q } #[])).Ns1 N2 m := n2.at fun o e => Heap.get?_push_of_some _ e
  have k2 : ∀ b o, h.get? b = some o → h2.get? b = some o := fun b o e => by rw [← hH2]; exact Heap.get?_push_of_some _ (k1 b o e)
  have nb : ∀ b o, h.get? b = some o → b ≠ h2.objs.size ∧ b ≠ N2 := fun b o e => ⟨Nat.ne_of_lt (Heap.lt_size (k2 b o e)), by rw [← hN]; exact Nat.ne_of_lt (Heap.lt_size (k1 b o e))⟩
  have k3 : ∀ b o, h.get? b = some o → (h2.push (co { name := Str.ofString "K", bases := [.type "object"], mro := [], ns := N2, qualname := q } #[])).get? b = some o := fun b o e => Heap.get?_push_of_some _ (k2 b o e)
  show wpAny _ _ _ _ _ ⟨h2.push (co { name := Str.ofString "K", bases := [.type "object"], mro := [], ns := N2, qualname := q } #[]), g, d, t, os⟩
  generalize h2.push (co { name := Str.ofString "K", bases := [.type "object"], mro := [], ns := N2, qualname := q } #[]) = h3 at c3 n3 k3 ⊢
  generalize h2.objs.size = a at haN c3 nb ⊢
  repeat (first | with_reducible (first | refine wpa_bindK ?_ | refine kp_out ?_ | refine wpAny_pure ?_ | refine forQ_yield ?_ | refine forQ_done ?_ | refine wpa_for_nil ?_ | refine wpa_for_cons ?_ | refine wpAny_rule ?_ | refine wpAny_holding ?_ | refine wpAny_of_eq sub_tuple ?_ | refine wpAny_of_eq sub_dict ?_ | refine wpAny_of_eq sub_type ?_ | refine wpAny_of_eq sub_object ?_ | refine wpAny_of_eq typeOf_object ?_ | refine wpAny_of_eq look_dict_iter ?_ | refine wpAny_of_eq look_type_mro ?_ | refine wpAny_of_eq mro_object ?_ | refine st_seq ?_ | refine st_ext ?_ | refine st_trn ?_ | refine st_read ?_ | refine st_dict ?_ | refine st_nsget ?_ | refine st_newobj ?_ | refine st_nsset ?_ | refine st_nsdel ?_ | refine st_alloc ?_ | refine st_slot ?_ | refine st_ucls ?_ | refine st_hook ?_ | refine st_lin ?_ | refine st_rm ?_ | refine st_mb ?_ | refine st_inst ?_ | refine st_gw ?_ | refine st_note ?_ | refine st_try ?_) | refine wpAny_ite_false rfl ?_ | refine wpAny_ite_true rfl ?_ | wp_delta | wp_step)
  refine unhold (wpa_slot (s := ⟨h3, g, d, t, os⟩) (sl' := #[some (.ref bT)]) c3 (by decide) rfl fun h4 c4 s4 => ?_)
  have n4 := n3.sameBut s4 haN.symm
  repeat (first | with_reducible (first | refine wpa_bindK ?_ | refine kp_out ?_ | refine wpAny_pure ?_ | refine forQ_yield ?_ | refine forQ_done ?_ | refine wpa_for_nil ?_ | refine wpa_for_cons ?_ | refine wpAny_rule ?_ | refine wpAny_holding ?_ | refine wpAny_of_eq sub_tuple ?_ | refine wpAny_of_eq sub_dict ?_ | refine wpAny_of_eq sub_type ?_ | refine wpAny_of_eq sub_object ?_ | refine wpAny_of_eq typeOf_object ?_ | refine wpAny_of_eq look_dict_iter ?_ | refine wpAny_of_eq look_type_mro ?_ | refine wpAny_of_eq mro_object ?_ | refine st_seq ?_ | refine st_ext ?_ | refine st_trn ?_ | refine st_read ?_ | refine st_dict ?_ | refine st_nsget ?_ | refine st_newobj ?_ | refine st_nsset ?_ | refine st_nsdel ?_ | refine st_alloc ?_ | refine st_slot ?_ | refine st_ucls ?_ | refine st_hook ?_ | refine st_lin ?_ | refine st_rm ?_ | refine st_mb ?_ | refine st_inst ?_ | refine st_gw ?_ | refine st_note ?_ | refine st_try ?_) | refine wpAny_ite_false rfl ?_ | refine wpAny_ite_true rfl ?_ | wp_delta | wp_step)
  refine unhold (wpa_slot (s := ⟨h4, g, d, t, os⟩) (sl' := #[some (.ref bT), none, some (.str "K" tk)]) c4 (by decide) rfl fun h5 c5 s5 => ?_)
  have n5 := n4.sameBut s5 haN.symm
  repeat (first | with_reducible (first | refine wpa_bindK ?_ | refine kp_out ?_ | refine wpAny_pure ?_ | refine forQ_yield ?_ | refine forQ_done ?_ | refine wpa_for_nil ?_ | refine wpa_for_cons ?_ | refine wpAny_rule ?_ | refine wpAny_holding ?_ | refine wpAny_of_eq sub_tuple ?_ | refine wpAny_of_eq sub_dict ?_ | refine wpAny_of_eq sub_type ?_ | refine wpAny_of_eq sub_object ?_ | refine wpAny_of_eq typeOf_object ?_ | refine wpAny_of_eq look_dict_iter ?_ | refine wpAny_of_eq look_type_mro ?_ | refine wpAny_of_eq mro_object ?_ | refine st_seq ?_ | refine st_ext ?_ | refine st_trn ?_ | refine st_read ?_ | refine st_dict ?_ | refine st_nsget ?_ | refine st_newobj ?_ | refine st_nsset ?_ | refine st_nsdel ?_ | refine st_alloc ?_ | refine st_slot ?_ | refine st_ucls ?_ | refine st_hook ?_ | refine st_lin ?_ | refine st_rm ?_ | refine st_mb ?_ | refine st_inst ?_ | refine st_gw ?_ | refine st_note ?_ | refine st_try ?_) | refine wpAny_ite_false rfl ?_ | refine wpAny_ite_true rfl ?_ | wp_delta | wp_step)
  refine unhold (wpa_slot (s := ⟨h5, g, d, t, os⟩) (sl' := #[some (.ref bT), none, some (.str "K" tk), some (.str q tq)]) c5 (by decide) rfl fun h6 c6 s6 => ?_)
  have n6 := n5.sameBut s6 haN.symm
  repeat (first | with_reducible (first | refine wpa_bindK ?_ | refine kp_out ?_ | refine wpAny_pure ?_ | refine forQ_yield ?_ | refine forQ_done ?_ | refine wpa_for_nil ?_ | refine wpa_for_cons ?_ | refine wpAny_rule ?_ | refine wpAny_holding ?_ | refine wpAny_of_eq sub_tuple ?_ | refine wpAny_of_eq sub_dict ?_ | refine wpAny_of_eq sub_type ?_ | refine wpAny_of_eq sub_object ?_ | refine wpAny_of_eq typeOf_object ?_ | refine wpAny_of_eq look_dict_iter ?_ | refine wpAny_of_eq look_type_mro ?_ | refine wpAny_of_eq mro_object ?_ | refine st_seq ?_ | refine st_ext ?_ | refine st_trn ?_ | refine st_read ?_ | refine st_dict ?_ | refine st_nsget ?_ | refine st_newobj ?_ | refine st_nsset ?_ | refine st_nsdel ?_ | refine st_alloc ?_ | refine st_slot ?_ | refine st_ucls ?_ | refine st_hook ?_ | refine st_lin ?_ | refine st_rm ?_ | refine st_mb ?_ | refine st_inst ?_ | refine st_gw ?_ | refine st_note ?_ | refine st_try ?_) | refine wpAny_ite_false rfl ?_ | refine wpAny_ite_true rfl ?_ | wp_delta | wp_step)
  refine unhold (wpAny_nsDel1 (s := ⟨h6, g, d, t, os⟩) n6 fun h7 n7 s7 => ?_)
  have c7 := (s7.2 a haN).trans c6
  repeat (first | with_reducible (first | refine wpa_bindK ?_ | refine kp_out ?_ | refine wpAny_pure ?_ | refine forQ_yield ?_ | refine forQ_done ?_ | refine wpa_for_nil ?_ | refine wpa_for_cons ?_ | refine wpAny_rule ?_ | refine wpAny_holding ?_ | refine wpAny_of_eq sub_tuple ?_ | refine wpAny_of_eq sub_dict ?_ | refine wpAny_of_eq sub_type ?_ | refine wpAny_of_eq sub_object ?_ | refine wpAny_of_eq typeOf_object ?_ | refine wpAny_of_eq look_dict_iter ?_ | refine wpAny_of_eq look_type_mro ?_ | refine wpAny_of_eq mro_object ?_ | refine st_seq ?_ | refine st_ext ?_ | refine st_trn ?_ | refine st_read ?_ | refine st_dict ?_ | refine st_nsget ?_ | refine st_newobj ?_ | refine st_nsset ?_ | refine st_nsdel ?_ | refine st_alloc ?_ | refine st_slot ?_ | refine st_ucls ?_ | refine st_hook ?_ | refine st_lin ?_ | refine st_rm ?_ | refine st_mb ?_ | refine st_inst ?_ | refine st_gw ?_ | refine st_note ?_ | refine st_try ?_) | refine wpAny_ite_false rfl ?_ | refine wpAny_ite_true rfl ?_ | wp_delta | wp_step)
  refine unhold (nsGet_at n7.ns ((if_neg (by decide)).trans mnew) ?_)
  repeat (first | with_reducible (first | refine wpa_bindK ?_ | refine kp_out ?_ | refine wpAny_pure ?_ | refine forQ_yield ?_ | refine forQ_done ?_ | refine wpa_for_nil ?_ | refine wpa_for_cons ?_ | refine wpAny_rule ?_ | refine wpAny_holding ?_ | refine wpAny_of_eq sub_tuple ?_ | refine wpAny_of_eq sub_dict ?_ | refine wpAny_of_eq sub_type ?_ | refine wpAny_of_eq sub_object ?_ | refine wpAny_of_eq typeOf_object ?_ | refine wpAny_of_eq look_dict_iter ?_ | refine wpAny_of_eq look_type_mro ?_ | refine wpAny_of_eq mro_object ?_ | refine st_seq ?_ | refine st_ext ?_ | refine st_trn ?_ | refine st_read ?_ | refine st_dict ?_ | refine st_nsget ?_ | refine st_newobj ?_ | refine st_nsset ?_ | refine st_nsdel ?_ | refine st_alloc ?_ | refine st_slot ?_ | refine st_ucls ?_ | refine st_hook ?_ | refine st_lin ?_ | refine st_rm ?_ | refine st_mb ?_ | refine st_inst ?_ | refine st_gw ?_ | refine st_note ?_ | refine st_try ?_) | refine wpAny_ite_false rfl ?_ | refine wpAny_ite_true rfl ?_ | wp_delta | wp_step)
  refine unhold (nsGet_at n7.ns ((if_neg (by decide)).trans mis) ?_)
  repeat (first | with_reducible (first | refine wpa_bindK ?_ | refine kp_out ?_ | refine wpAny_pure ?_ | refine forQ_yield ?_ | refine forQ_done ?_ | refine wpa_for_nil ?_ | refine wpa_for_cons ?_ | refine wpAny_rule ?_ | refine wpAny_holding ?_ | refine wpAny_of_eq sub_tuple ?_ | refine wpAny_of_eq sub_dict ?_ | refine wpAny_of_eq sub_type ?_ | refine wpAny_of_eq sub_object ?_ | refine wpAny_of_eq typeOf_object ?_ | refine wpAny_of_eq look_dict_iter ?_ | refine wpAny_of_eq look_type_mro ?_ | refine wpAny_of_eq mro_object ?_ | refine st_seq ?_ | refine st_ext ?_ | refine st_trn ?_ | refine st_read ?_ | refine st_dict ?_ | refine st_nsget ?_ | refine st_newobj ?_ | refine st_nsset ?_ | refine st_nsdel ?_ | refine st_alloc ?_ | refine st_slot ?_ | refine st_ucls ?_ | refine st_hook ?_ | refine st_lin ?_ | refine st_rm ?_ | refine st_mb ?_ | refine st_inst ?_ | refine st_gw ?_ | refine st_note ?_ | refine st_try ?_) | refine wpAny_ite_false rfl ?_ | refine wpAny_ite_true rfl ?_ | wp_delta | wp_step)
  refine unhold (nsGet_at n7.ns ((if_neg (by decide)).trans mcg) ?_)
  repeat (first | with_reducible (first | refine wpa_bindK ?_ | refine kp_out ?_ | refine wpAny_pure ?_ | refine forQ_yield ?_ | refine forQ_done ?_ | refine wpa_for_nil ?_ | refine wpa_for_cons ?_ | refine wpAny_rule ?_ | refine wpAny_holding ?_ | refine wpAny_of_eq sub_tuple ?_ | refine wpAny_of_eq sub_dict ?_ | refine wpAny_of_eq sub_type ?_ | refine wpAny_of_eq sub_object ?_ | refine wpAny_of_eq typeOf_object ?_ | refine wpAny_of_eq look_dict_iter ?_ | refine wpAny_of_eq look_type_mro ?_ | refine wpAny_of_eq mro_object ?_ | refine st_seq ?_ | refine st_ext ?_ | refine st_trn ?_ | refine st_read ?_ | refine st_dict ?_ | refine st_nsget ?_ | refine st_newobj ?_ | refine st_nsset ?_ | refine st_nsdel ?_ | refine st_alloc ?_ | refine st_slot ?_ | refine st_ucls ?_ | refine st_hook ?_ | refine st_lin ?_ | refine st_rm ?_ | refine st_mb ?_ | refine st_inst ?_ | refine st_gw ?_ | refine st_note ?_ | refine st_try ?_) | refine wpAny_ite_false rfl ?_ | refine wpAny_ite_true rfl ?_ | wp_delta | wp_step)
  refine unhold (nsGet_at n7.ns ((if_neg (by decide)).trans mcc) ?_)
  repeat (first | with_reducible (first | refine wpa_bindK ?_ | refine kp_out ?_ | refine wpAny_pure ?_ | refine forQ_yield ?_ | refine forQ_done ?_ | refine wpa_for_nil ?_ | refine wpa_for_cons ?_ | refine wpAny_rule ?_ | refine wpAny_holding ?_ | refine wpAny_of_eq sub_tuple ?_ | refine wpAny_of_eq sub_dict ?_ | refine wpAny_of_eq sub_type ?_ | refine wpAny_of_eq sub_object ?_ | refine wpAny_of_eq typeOf_object ?_ | refine wpAny_of_eq look_dict_iter ?_ | refine wpAny_of_eq look_type_mro ?_ | refine wpAny_of_eq mro_object ?_ | refine st_seq ?_ | refine st_ext ?_ | refine st_trn ?_ | refine st_read ?_ | refine st_dict ?_ | refine st_nsget ?_ | refine st_newobj ?_ | refine st_nsset ?_ | refine st_nsdel ?_ | refine st_alloc ?_ | refine st_slot ?_ | refine st_ucls ?_ | refine st_hook ?_ | refine st_lin ?_ | refine st_rm ?_ | refine st_mb ?_ | refine st_inst ?_ | refine st_gw ?_ | refine st_note ?_ | refine st_try ?_) | refine wpAny_ite_false rfl ?_ | refine wpAny_ite_true rfl ?_ | wp_delta | wp_step)
  refine unhold (nsGet_at n7.ns ((if_neg (by decide)).trans mdc) ?_)
  repeat (first | with_reducible (first | refine wpa_bindK ?_ | refine kp_out ?_ | refine wpAny_pure ?_ | refine forQ_yield ?_ | refine forQ_done ?_ | refine wpa_for_nil ?_ | refine wpa_for_cons ?_ | refine wpAny_rule ?_ | refine wpAny_holding ?_ | refine wpAny_of_eq sub_tuple ?_ | refine wpAny_of_eq sub_dict ?_ | refine wpAny_of_eq sub_type ?_ | refine wpAny_of_eq sub_object ?_ | refine wpAny_of_eq typeOf_object ?_ | refine wpAny_of_eq look_dict_iter ?_ | refine wpAny_of_eq look_type_mro ?_ | refine wpAny_of_eq mro_object ?_ | refine st_seq ?_ | refine st_ext ?_ | refine st_trn ?_ | refine st_read ?_ | refine st_dict ?_ | refine st_nsget ?_ | refine st_newobj ?_ | refine st_nsset ?_ | refine st_nsdel ?_ | refine st_alloc ?_ | refine st_slot ?_ | refine st_ucls ?_ | refine st_hook ?_ | refine st_lin ?_ | refine st_rm ?_ | refine st_mb ?_ | refine st_inst ?_ | refine st_gw ?_ | refine st_note ?_ | refine st_try ?_) | refine wpAny_ite_false rfl ?_ | refine wpAny_ite_true rfl ?_ | wp_delta | wp_step)
  refine unhold (wpAny_of_eq hook_type ?_)
  repeat (first | with_reducible (first | refine wpa_bindK ?_ | refine kp_out ?_ | refine wpAny_pure ?_ | refine forQ_yield ?_ | refine forQ_done ?_ | refine wpa_for_nil ?_ | refine wpa_for_cons ?_ | refine wpAny_rule ?_ | refine wpAny_holding ?_ | refine wpAny_of_eq sub_tuple ?_ | refine wpAny_of_eq sub_dict ?_ | refine wpAny_of_eq sub_type ?_ | refine wpAny_of_eq sub_object ?_ | refine wpAny_of_eq typeOf_object ?_ | refine wpAny_of_eq look_dict_iter ?_ | refine wpAny_of_eq look_type_mro ?_ | refine wpAny_of_eq mro_object ?_ | refine st_seq ?_ | refine st_ext ?_ | refine st_trn ?_ | refine st_read ?_ | refine st_dict ?_ | refine st_nsget ?_ | refine st_newobj ?_ | refine st_nsset ?_ | refine st_nsdel ?_ | refine st_alloc ?_ | refine st_slot ?_ | refine st_ucls ?_ | refine st_hook ?_ | refine st_lin ?_ | refine st_rm ?_ | refine st_mb ?_ | refine st_inst ?_ | refine st_gw ?_ | refine st_note ?_ | refine st_try ?_) | refine wpAny_ite_false rfl ?_ | refine wpAny_ite_true rfl ?_ | wp_delta | wp_step)
  refine unhold (wpAny_of_eq lin_object ?_)
  repeat (first | with_reducible (first | refine wpa_bindK ?_ | refine kp_out ?_ | refine wpAny_pure ?_ | refine forQ_yield ?_ | refine forQ_done ?_ | refine wpa_for_nil ?_ | refine wpa_for_cons ?_ | refine wpAny_rule ?_ | refine wpAny_holding ?_ | refine wpAny_of_eq sub_tuple ?_ | refine wpAny_of_eq sub_dict ?_ | refine wpAny_of_eq sub_type ?_ | refine wpAny_of_eq sub_object ?_ | refine wpAny_of_eq typeOf_object ?_ | refine wpAny_of_eq look_dict_iter ?_ | refine wpAny_of_eq look_type_mro ?_ | refine wpAny_of_eq mro_object ?_ | refine st_seq ?_ | refine st_ext ?_ | refine st_trn ?_ | refine st_read ?_ | refine st_dict ?_ | refine st_nsget ?_ | refine st_newobj ?_ | refine st_nsset ?_ | refine st_nsdel ?_ | refine st_alloc ?_ | refine st_slot ?_ | refine st_ucls ?_ | refine st_hook ?_ | refine st_lin ?_ | refine st_rm ?_ | refine st_mb ?_ | refine st_inst ?_ | refine st_gw ?_ | refine st_note ?_ | refine st_try ?_) | refine wpAny_ite_false rfl ?_ | refine wpAny_ite_true rfl ?_ | wp_delta | wp_step)
  rw [show List.filter (fun x => x != Value.ref a) [Value.ref a, Value.type "object"] = [Value.type "object"] by simp]
  refine wpAny_of_eq (a := false) (by kernel_rfl) ?_
  repeat (first | with_reducible (first | refine wpa_bindK ?_ | refine kp_out ?_ | refine wpAny_pure ?_ | refine forQ_yield ?_ | refine forQ_done ?_ | refine wpa_for_nil ?_ | refine wpa_for_cons ?_ | refine wpAny_rule ?_ | refine wpAny_holding ?_ | refine wpAny_of_eq sub_tuple ?_ | refine wpAny_of_eq sub_dict ?_ | refine wpAny_of_eq sub_type ?_ | refine wpAny_of_eq sub_object ?_ | refine wpAny_of_eq typeOf_object ?_ | refine wpAny_of_eq look_dict_iter ?_ | refine wpAny_of_eq look_type_mro ?_ | refine wpAny_of_eq mro_object ?_ | refine st_seq ?_ | refine st_ext ?_ | refine st_trn ?_ | refine st_read ?_ | refine st_dict ?_ | refine st_nsget ?_ | refine st_newobj ?_ | refine st_nsset ?_ | refine st_nsdel ?_ | refine st_alloc ?_ | refine st_slot ?_ | refine st_ucls ?_ | refine st_hook ?_ | refine st_lin ?_ | refine st_rm ?_ | refine st_mb ?_ | refine st_inst ?_ | refine st_gw ?_ | refine st_note ?_ | refine st_try ?_) | refine wpAny_ite_false rfl ?_ | refine wpAny_ite_true rfl ?_ | wp_delta | wp_step)
  refine unhold (wpa_ucls (s := ⟨h7, g, d, t, os⟩) c7 rfl fun h8 c8 s8 => ?_)
  rw [show ((fun n => es.any fun x => x.key.isStr n) (Str.ofString "__del__") || false) = false from (by show (es.any _ || false) = false; rw [show es.any (fun x => x.key.isStr (Str.ofString "__del__")) = false from hdel]; rfl)] at c8
  have n8 := n7.sameBut s8 haN.symm
  repeat (first | with_reducible (first | refine wpa_bindK ?_ | refine kp_out ?_ | refine wpAny_pure ?_ | refine forQ_yield ?_ | refine forQ_done ?_ | refine wpa_for_nil ?_ | refine wpa_for_cons ?_ | refine wpAny_rule ?_ | refine wpAny_holding ?_ | refine wpAny_of_eq sub_tuple ?_ | refine wpAny_of_eq sub_dict ?_ | refine wpAny_of_eq sub_type ?_ | refine wpAny_of_eq sub_object ?_ | refine wpAny_of_eq typeOf_object ?_ | refine wpAny_of_eq look_dict_iter ?_ | refine wpAny_of_eq look_type_mro ?_ | refine wpAny_of_eq mro_object ?_ | refine st_seq ?_ | refine st_ext ?_ | refine st_trn ?_ | refine st_read ?_ | refine st_dict ?_ | refine st_nsget ?_ | refine st_newobj ?_ | refine st_nsset ?_ | refine st_nsdel ?_ | refine st_alloc ?_ | refine st_slot ?_ | refine st_ucls ?_ | refine st_hook ?_ | refine st_lin ?_ | refine st_rm ?_ | refine st_mb ?_ | refine st_inst ?_ | refine st_gw ?_ | refine st_note ?_ | refine st_try ?_) | refine wpAny_ite_false rfl ?_ | refine wpAny_ite_true rfl ?_ | wp_delta | wp_step)
  refine unhold (wpAny_of_eq made_object ?_)
  repeat (first | with_reducible (first | refine wpa_bindK ?_ | refine kp_out ?_ | refine wpAny_pure ?_ | refine forQ_yield ?_ | refine forQ_done ?_ | refine wpa_for_nil ?_ | refine wpa_for_cons ?_ | refine wpAny_rule ?_ | refine wpAny_holding ?_ | refine wpAny_of_eq sub_tuple ?_ | refine wpAny_of_eq sub_dict ?_ | refine wpAny_of_eq sub_type ?_ | refine wpAny_of_eq sub_object ?_ | refine wpAny_of_eq typeOf_object ?_ | refine wpAny_of_eq look_dict_iter ?_ | refine wpAny_of_eq look_type_mro ?_ | refine wpAny_of_eq mro_object ?_ | refine st_seq ?_ | refine st_ext ?_ | refine st_trn ?_ | refine st_read ?_ | refine st_dict ?_ | refine st_nsget ?_ | refine st_newobj ?_ | refine st_nsset ?_ | refine st_nsdel ?_ | refine st_alloc ?_ | refine st_slot ?_ | refine st_ucls ?_ | refine st_hook ?_ | refine st_lin ?_ | refine st_rm ?_ | refine st_mb ?_ | refine st_inst ?_ | refine st_gw ?_ | refine st_note ?_ | refine st_try ?_) | refine wpAny_ite_false rfl ?_ | refine wpAny_ite_true rfl ?_ | wp_delta | wp_step)
  refine unhold (wpa_slot (s := ⟨h8, g, d, t, os⟩) (sl' := #[some (.ref bT), none, some (.str "K" tk), some (.str q tq), some (.builtin "object.__new__")]) c8 (by decide) rfl fun h9 c9 s9 => ?_)
  have n9 := n8.sameBut s9 haN.symm
  repeat (first | with_reducible (first | refine wpa_bindK ?_ | refine kp_out ?_ | refine wpAny_pure ?_ | refine forQ_yield ?_ | refine forQ_done ?_ | refine wpa_for_nil ?_ | refine wpa_for_cons ?_ | refine wpAny_rule ?_ | refine wpAny_holding ?_ | refine wpAny_of_eq sub_tuple ?_ | refine wpAny_of_eq sub_dict ?_ | refine wpAny_of_eq sub_type ?_ | refine wpAny_of_eq sub_object ?_ | refine wpAny_of_eq typeOf_object ?_ | refine wpAny_of_eq look_dict_iter ?_ | refine wpAny_of_eq look_type_mro ?_ | refine wpAny_of_eq mro_object ?_ | refine st_seq ?_ | refine st_ext ?_ | refine st_trn ?_ | refine st_read ?_ | refine st_dict ?_ | refine st_nsget ?_ | refine st_newobj ?_ | refine st_nsset ?_ | refine st_nsdel ?_ | refine st_alloc ?_ | refine st_slot ?_ | refine st_ucls ?_ | refine st_hook ?_ | refine st_lin ?_ | refine st_rm ?_ | refine st_mb ?_ | refine st_inst ?_ | refine st_gw ?_ | refine st_note ?_ | refine st_try ?_) | refine wpAny_ite_false rfl ?_ | refine wpAny_ite_true rfl ?_ | wp_delta | wp_step)
  refine unhold (wpa_refresh (s := ⟨h9, g, d, t, os⟩) c9 rfl rfl n9.ns (by rw [if_neg (by decide)]; exact mnew) ?_)
  repeat (first | with_reducible (first | refine wpa_bindK ?_ | refine kp_out ?_ | refine wpAny_pure ?_ | refine forQ_yield ?_ | refine forQ_done ?_ | refine wpa_for_nil ?_ | refine wpa_for_cons ?_ | refine wpAny_rule ?_ | refine wpAny_holding ?_ | refine wpAny_of_eq sub_tuple ?_ | refine wpAny_of_eq sub_dict ?_ | refine wpAny_of_eq sub_type ?_ | refine wpAny_of_eq sub_object ?_ | refine wpAny_of_eq typeOf_object ?_ | refine wpAny_of_eq look_dict_iter ?_ | refine wpAny_of_eq look_type_mro ?_ | refine wpAny_of_eq mro_object ?_ | refine st_seq ?_ | refine st_ext ?_ | refine st_trn ?_ | refine st_read ?_ | refine st_dict ?_ | refine st_nsget ?_ | refine st_newobj ?_ | refine st_nsset ?_ | refine st_nsdel ?_ | refine st_alloc ?_ | refine st_slot ?_ | refine st_ucls ?_ | refine st_hook ?_ | refine st_lin ?_ | refine st_rm ?_ | refine st_mb ?_ | refine st_inst ?_ | refine st_gw ?_ | refine st_note ?_ | refine st_try ?_) | refine wpAny_ite_false rfl ?_ | refine wpAny_ite_true rfl ?_ | wp_delta | wp_step)
  refine unhold (wpa_install (s := ⟨h9, g, d, t, os⟩) c9 n9 haN (by rw [if_neg (by decide)]; exact mobj) rfl L (fun x hx => hL x fun q => hx (by rw [q]; split <;> rfl)) (by omega) fun h10 D tD tk10 c10 n10 k10 fD dD => ?_)
  generalize hm10 : (fun x : Str => if x = "obj" then some (Value.ref D) else (fun x : Str => if x = Str.ofString "__qualname__" then none else m x) x) = m10 at n10
  have w1 : m10 "__doc__" = none := by rw [← hm10]; show (if _ then _ else if _ then _ else _) = _; rw [if_neg (by decide), if_neg (by decide)]; exact md
  have w2 : m10 "__eq__" = some ve := by rw [← hm10]; show (if _ then _ else if _ then _ else _) = _; rw [if_neg (by decide), if_neg (by decide)]; exact meq
  have w3 : m10 "__hash__" = some vh := by rw [← hm10]; show (if _ then _ else if _ then _ else _) = _; rw [if_neg (by decide), if_neg (by decide)]; exact mhash
  have hDa : D ≠ a := fun q => by rw [q, c9] at fD; cases fD
  have hDN : D ≠ N2 := fun q => by obtain ⟨o, _, _, e, _⟩ := n9; rw [q, e] at fD; cases fD
  repeat (first | with_reducible (first | refine wpa_bindK ?_ | refine kp_out ?_ | refine wpAny_pure ?_ | refine forQ_yield ?_ | refine forQ_done ?_ | refine wpa_for_nil ?_ | refine wpa_for_cons ?_ | refine wpAny_rule ?_ | refine wpAny_holding ?_ | refine wpAny_of_eq sub_tuple ?_ | refine wpAny_of_eq sub_dict ?_ | refine wpAny_of_eq sub_type ?_ | refine wpAny_of_eq sub_object ?_ | refine wpAny_of_eq typeOf_object ?_ | refine wpAny_of_eq look_dict_iter ?_ | refine wpAny_of_eq look_type_mro ?_ | refine wpAny_of_eq mro_object ?_ | refine st_seq ?_ | refine st_ext ?_ | refine st_trn ?_ | refine st_read ?_ | refine st_dict ?_ | refine st_nsget ?_ | refine st_newobj ?_ | refine st_nsset ?_ | refine st_nsdel ?_ | refine st_alloc ?_ | refine st_slot ?_ | refine st_ucls ?_ | refine st_hook ?_ | refine st_lin ?_ | refine st_rm ?_ | refine st_mb ?_ | refine st_inst ?_ | refine st_gw ?_ | refine st_note ?_ | refine st_try ?_) | refine wpAny_ite_false rfl ?_ | refine wpAny_ite_true rfl ?_ | wp_delta | wp_step)
  refine unhold (wpAny_of_eq givesWeak_object ?_)
  repeat (first | with_reducible (first | refine wpa_bindK ?_ | refine kp_out ?_ | refine wpAny_pure ?_ | refine forQ_yield ?_ | refine forQ_done ?_ | refine wpa_for_nil ?_ | refine wpa_for_cons ?_ | refine wpAny_rule ?_ | refine wpAny_holding ?_ | refine wpAny_of_eq sub_tuple ?_ | refine wpAny_of_eq sub_dict ?_ | refine wpAny_of_eq sub_type ?_ | refine wpAny_of_eq sub_object ?_ | refine wpAny_of_eq typeOf_object ?_ | refine wpAny_of_eq look_dict_iter ?_ | refine wpAny_of_eq look_type_mro ?_ | refine wpAny_of_eq mro_object ?_ | refine st_seq ?_ | refine st_ext ?_ | refine st_trn ?_ | refine st_read ?_ | refine st_dict ?_ | refine st_nsget ?_ | refine st_newobj ?_ | refine st_nsset ?_ | refine st_nsdel ?_ | refine st_alloc ?_ | refine st_slot ?_ | refine st_ucls ?_ | refine st_hook ?_ | refine st_lin ?_ | refine st_rm ?_ | refine st_mb ?_ | refine st_inst ?_ | refine st_gw ?_ | refine st_note ?_ | refine st_try ?_) | refine wpAny_ite_false rfl ?_ | refine wpAny_ite_true rfl ?_ | wp_delta | wp_step)
  refine unhold (wpa_slot (s := ⟨h10, g, d, tk10, os⟩) (sl' := #[some (.ref bT), none, some (.str "K" tk), some (.str q tq), some (.builtin "object.__new__"), some (.bool false)]) c10 (by decide) rfl fun h11 c11 s11 => ?_)
  have n11 := n10.sameBut s11 haN.symm
  have d11 := (s11.2 D hDa).trans dD
  repeat (first | with_reducible (first | refine wpa_bindK ?_ | refine kp_out ?_ | refine wpAny_pure ?_ | refine forQ_yield ?_ | refine forQ_done ?_ | refine wpa_for_nil ?_ | refine wpa_for_cons ?_ | refine wpAny_rule ?_ | refine wpAny_holding ?_ | refine wpAny_of_eq sub_tuple ?_ | refine wpAny_of_eq sub_dict ?_ | refine wpAny_of_eq sub_type ?_ | refine wpAny_of_eq sub_object ?_ | refine wpAny_of_eq typeOf_object ?_ | refine wpAny_of_eq look_dict_iter ?_ | refine wpAny_of_eq look_type_mro ?_ | refine wpAny_of_eq mro_object ?_ | refine st_seq ?_ | refine st_ext ?_ | refine st_trn ?_ | refine st_read ?_ | refine st_dict ?_ | refine st_nsget ?_ | refine st_newobj ?_ | refine st_nsset ?_ | refine st_nsdel ?_ | refine st_alloc ?_ | refine st_slot ?_ | refine st_ucls ?_ | refine st_hook ?_ | refine st_lin ?_ | refine st_rm ?_ | refine st_mb ?_ | refine st_inst ?_ | refine st_gw ?_ | refine st_note ?_ | refine st_try ?_) | refine wpAny_ite_false rfl ?_ | refine wpAny_ite_true rfl ?_ | wp_delta | wp_step)
  refine unhold (nsGet_at n11.ns w1 ?_)
  repeat (first | with_reducible (first | refine wpa_bindK ?_ | refine kp_out ?_ | refine wpAny_pure ?_ | refine forQ_yield ?_ | refine forQ_done ?_ | refine wpa_for_nil ?_ | refine wpa_for_cons ?_ | refine wpAny_rule ?_ | refine wpAny_holding ?_ | refine wpAny_of_eq sub_tuple ?_ | refine wpAny_of_eq sub_dict ?_ | refine wpAny_of_eq sub_type ?_ | refine wpAny_of_eq sub_object ?_ | refine wpAny_of_eq typeOf_object ?_ | refine wpAny_of_eq look_dict_iter ?_ | refine wpAny_of_eq look_type_mro ?_ | refine wpAny_of_eq mro_object ?_ | refine st_seq ?_ | refine st_ext ?_ | refine st_trn ?_ | refine st_read ?_ | refine st_dict ?_ | refine st_nsget ?_ | refine st_newobj ?_ | refine st_nsset ?_ | refine st_nsdel ?_ | refine st_alloc ?_ | refine st_slot ?_ | refine st_ucls ?_ | refine st_hook ?_ | refine st_lin ?_ | refine st_rm ?_ | refine st_mb ?_ | refine st_inst ?_ | refine st_gw ?_ | refine st_note ?_ | refine st_try ?_) | refine wpAny_ite_false rfl ?_ | refine wpAny_ite_true rfl ?_ | wp_delta | wp_step)
  refine unhold (wpAny_nsSet1 (s := ⟨h11, g, d, tk10, os⟩) n11 fun h12 n12 s12 => ?_)
  generalize hm12 : (fun x : Str => if x = Str.ofString "__doc__" then some Value.none else m10 x) = m12 at n12
  have w4 : m12 "__eq__" = some ve := by rw [← hm12]; show (if _ then _ else _) = _; rw [if_neg (by decide)]; exact w2
  have w5 : m12 "__hash__" = some vh := by rw [← hm12]; show (if _ then _ else _) = _; rw [if_neg (by decide)]; exact w3
  have c12 := (s12.2 a haN).trans c11
  have d12 := (s12.2 D hDN).trans d11
  repeat (first | with_reducible (first | refine wpa_bindK ?_ | refine kp_out ?_ | refine wpAny_pure ?_ | refine forQ_yield ?_ | refine forQ_done ?_ | refine wpa_for_nil ?_ | refine wpa_for_cons ?_ | refine wpAny_rule ?_ | refine wpAny_holding ?_ | refine wpAny_of_eq sub_tuple ?_ | refine wpAny_of_eq sub_dict ?_ | refine wpAny_of_eq sub_type ?_ | refine wpAny_of_eq sub_object ?_ | refine wpAny_of_eq typeOf_object ?_ | refine wpAny_of_eq look_dict_iter ?_ | refine wpAny_of_eq look_type_mro ?_ | refine wpAny_of_eq mro_object ?_ | refine st_seq ?_ | refine st_ext ?_ | refine st_trn ?_ | refine st_read ?_ | refine st_dict ?_ | refine st_nsget ?_ | refine st_newobj ?_ | refine st_nsset ?_ | refine st_nsdel ?_ | refine st_alloc ?_ | refine st_slot ?_ | refine st_ucls ?_ | refine st_hook ?_ | refine st_lin ?_ | refine st_rm ?_ | refine st_mb ?_ | refine st_inst ?_ | refine st_gw ?_ | refine st_note ?_ | refine st_try ?_) | refine wpAny_ite_false rfl ?_ | refine wpAny_ite_true rfl ?_ | wp_delta | wp_step)
  refine unhold (nsGet_at n12.ns w4 ?_)
  repeat (first | with_reducible (first | refine wpa_bindK ?_ | refine kp_out ?_ | refine wpAny_pure ?_ | refine forQ_yield ?_ | refine forQ_done ?_ | refine wpa_for_nil ?_ | refine wpa_for_cons ?_ | refine wpAny_rule ?_ | refine wpAny_holding ?_ | refine wpAny_of_eq sub_tuple ?_ | refine wpAny_of_eq sub_dict ?_ | refine wpAny_of_eq sub_type ?_ | refine wpAny_of_eq sub_object ?_ | refine wpAny_of_eq typeOf_object ?_ | refine wpAny_of_eq look_dict_iter ?_ | refine wpAny_of_eq look_type_mro ?_ | refine wpAny_of_eq mro_object ?_ | refine st_seq ?_ | refine st_ext ?_ | refine st_trn ?_ | refine st_read ?_ | refine st_dict ?_ | refine st_nsget ?_ | refine st_newobj ?_ | refine st_nsset ?_ | refine st_nsdel ?_ | refine st_alloc ?_ | refine st_slot ?_ | refine st_ucls ?_ | refine st_hook ?_ | refine st_lin ?_ | refine st_rm ?_ | refine st_mb ?_ | refine st_inst ?_ | refine st_gw ?_ | refine st_note ?_ | refine st_try ?_) | refine wpAny_ite_false rfl ?_ | refine wpAny_ite_true rfl ?_ | wp_delta | wp_step)
  refine unhold (nsGet_at n12.ns w5 ?_)
  repeat (first | with_reducible (first | refine wpa_bindK ?_ | refine kp_out ?_ | refine wpAny_pure ?_ | refine forQ_yield ?_ | refine forQ_done ?_ | refine wpa_for_nil ?_ | refine wpa_for_cons ?_ | refine wpAny_rule ?_ | refine wpAny_holding ?_ | refine wpAny_of_eq sub_tuple ?_ | refine wpAny_of_eq sub_dict ?_ | refine wpAny_of_eq sub_type ?_ | refine wpAny_of_eq sub_object ?_ | refine wpAny_of_eq typeOf_object ?_ | refine wpAny_of_eq look_dict_iter ?_ | refine wpAny_of_eq look_type_mro ?_ | refine wpAny_of_eq mro_object ?_ | refine st_seq ?_ | refine st_ext ?_ | refine st_trn ?_ | refine st_read ?_ | refine st_dict ?_ | refine st_nsget ?_ | refine st_newobj ?_ | refine st_nsset ?_ | refine st_nsdel ?_ | refine st_alloc ?_ | refine st_slot ?_ | refine st_ucls ?_ | refine st_hook ?_ | refine st_lin ?_ | refine st_rm ?_ | refine st_mb ?_ | refine st_inst ?_ | refine st_gw ?_ | refine st_note ?_ | refine st_try ?_) | refine wpAny_ite_false rfl ?_ | refine wpAny_ite_true rfl ?_ | wp_delta | wp_step)
  refine unhold (wpAny_tryCatch ?_)
  repeat (first | with_reducible (first | refine wpa_bindK ?_ | refine kp_out ?_ | refine wpAny_pure ?_ | refine forQ_yield ?_ | refine forQ_done ?_ | refine wpa_for_nil ?_ | refine wpa_for_cons ?_ | refine wpAny_rule ?_ | refine wpAny_holding ?_ | refine wpAny_of_eq sub_tuple ?_ | refine wpAny_of_eq sub_dict ?_ | refine wpAny_of_eq sub_type ?_ | refine wpAny_of_eq sub_object ?_ | refine wpAny_of_eq typeOf_object ?_ | refine wpAny_of_eq look_dict_iter ?_ | refine wpAny_of_eq look_type_mro ?_ | refine wpAny_of_eq mro_object ?_ | refine st_seq ?_ | refine st_ext ?_ | refine st_trn ?_ | refine st_read ?_ | refine st_dict ?_ | refine st_nsget ?_ | refine st_newobj ?_ | refine st_nsset ?_ | refine st_nsdel ?_ | refine st_alloc ?_ | refine st_slot ?_ | refine st_ucls ?_ | refine st_hook ?_ | refine st_lin ?_ | refine st_rm ?_ | refine st_mb ?_ | refine st_inst ?_ | refine st_gw ?_ | refine st_note ?_ | refine st_try ?_) | refine wpAny_ite_false rfl ?_ | refine wpAny_ite_true rfl ?_ | wp_delta | wp_step)
  refine Classical.byContradiction fun no => ?_
  refine Classical.byContradiction fun nay => ?_
  obtain ⟨o12, es12, ep12, ho12, hd12, hsk12, _⟩ := id n12
  refine nay ?_
  clear nay
  have kk : ∀ b o, h.get? b = some o → h12.get? b = some o := fun b o e => by
    obtain ⟨na, nN⟩ := nb b o e
    have e9 : h9.get? b = some o := (s9.2 b na).trans ((s8.2 b na).trans ((s7.2 b nN).trans ((s6.2 b na).trans ((s5.2 b na).trans ((s4.2 b na).trans (k3 b o e))))))
    exact (s12.2 b nN).trans ((s11.2 b na).trans (k10 b o na nN e9))
  have m12e : ∀ x : Str, x ≠ "__qualname__" → x ≠ "obj" → x ≠ "__doc__" → m12 x = m x := fun x q1 q2 q3 => by
    rw [← hm12]; show (if _ then _ else _) = _
    rw [if_neg q3, ← hm10]; show (if _ then _ else if _ then _ else _) = _
    rw [if_neg q2, if_neg q1]
  have m12o : m12 "obj" = some (.ref D) := by
    rw [← hm12]; show (if _ then _ else _) = _
    rw [if_neg (by decide), ← hm10]; show (if _ then _ else if _ then _ else _) = _
    rw [if_pos rfl]
  have vals : ∀ x v, m12 x = some v → Plainv h12 v := fun x v e => by
    by_cases q3 : x = "__doc__"
    · rw [← hm12] at e
      have e' : (if x = Str.ofString "__doc__" then some Value.none else m10 x) = some v := e
      rw [if_pos q3] at e'; cases e'; exact .inl rfl
    by_cases q2 : x = "obj"
    · rw [q2, m12o] at e; cases e
      exact .inr (.inr (.inr ⟨D, _, "member_descriptor", rfl, d12, rfl, .inr (.inr (.inr rfl))⟩))
    by_cases q1 : x = "__qualname__"
    · exfalso
      rw [← hm12] at e
      have e' : (if x = Str.ofString "__doc__" then some Value.none else m10 x) = some v := e
      rw [if_neg q3, ← hm10] at e'
      have e'' : (if x = "obj" then some (Value.ref D) else if x = Str.ofString "__qualname__" then none else m x) = some v := e'
      rw [if_neg q2, if_pos q1] at e''; cases e''
    rw [m12e x q1 q2 q3] at e
    exact (hvals x v e).keeps kk
  refine no ?_
  clear no
  refine unhold (wpAny_dictEntries ho12 hd12 ?_)
  refine wpAny_bind (wpa_quiet_loop (fun e he R hr => ?_) ?_)
  · refine Classical.byContradiction fun nay => ?_
    obtain ⟨x, tx, ex, _⟩ := ns1_entry n12 ho12 hd12 e he
    refine nay ?_
    clear nay
    rw [ex]
    repeat (first | with_reducible (first | refine wpa_bindK ?_ | refine kp_out ?_ | refine wpAny_pure ?_ | refine forQ_yield ?_ | refine forQ_done ?_ | refine wpa_for_nil ?_ | refine wpa_for_cons ?_ | refine wpAny_rule ?_ | refine wpAny_holding ?_ | refine wpAny_of_eq sub_tuple ?_ | refine wpAny_of_eq sub_dict ?_ | refine wpAny_of_eq sub_type ?_ | refine wpAny_of_eq sub_object ?_ | refine wpAny_of_eq typeOf_object ?_ | refine wpAny_of_eq look_dict_iter ?_ | refine wpAny_of_eq look_type_mro ?_ | refine wpAny_of_eq mro_object ?_ | refine st_seq ?_ | refine st_ext ?_ | refine st_trn ?_ | refine st_read ?_ | refine st_dict ?_ | refine st_nsget ?_ | refine st_newobj ?_ | refine st_nsset ?_ | refine st_nsdel ?_ | refine st_alloc ?_ | refine st_slot ?_ | refine st_ucls ?_ | refine st_hook ?_ | refine st_lin ?_ | refine st_rm ?_ | refine st_mb ?_ | refine st_inst ?_ | refine st_gw ?_ | refine st_note ?_ | refine st_try ?_) | refine wpAny_ite_false rfl ?_ | refine wpAny_ite_true rfl ?_ | wp_delta | wp_step)
    exact hr
  repeat (first | with_reducible (first | refine wpa_bindK ?_ | refine kp_out ?_ | refine wpAny_pure ?_ | refine forQ_yield ?_ | refine forQ_done ?_ | refine wpa_for_nil ?_ | refine wpa_for_cons ?_ | refine wpAny_rule ?_ | refine wpAny_holding ?_ | refine wpAny_of_eq sub_tuple ?_ | refine wpAny_of_eq sub_dict ?_ | refine wpAny_of_eq sub_type ?_ | refine wpAny_of_eq sub_object ?_ | refine wpAny_of_eq typeOf_object ?_ | refine wpAny_of_eq look_dict_iter ?_ | refine wpAny_of_eq look_type_mro ?_ | refine wpAny_of_eq mro_object ?_ | refine st_seq ?_ | refine st_ext ?_ | refine st_trn ?_ | refine st_read ?_ | refine st_dict ?_ | refine st_nsget ?_ | refine st_newobj ?_ | refine st_nsset ?_ | refine st_nsdel ?_ | refine st_alloc ?_ | refine st_slot ?_ | refine st_ucls ?_ | refine st_hook ?_ | refine st_lin ?_ | refine st_rm ?_ | refine st_mb ?_ | refine st_inst ?_ | refine st_gw ?_ | refine st_note ?_ | refine st_try ?_) | refine wpAny_ite_false rfl ?_ | refine wpAny_ite_true rfl ?_ | wp_delta | wp_step)
  refine unhold (wpAny_dictEntries ho12 hd12 ?_)
  refine wpAny_bind (wpa_quiet_loop (fun e he R hr => ?_) ?_)
  · refine Classical.byContradiction fun nay => ?_
    obtain ⟨x, tx, ex, ev⟩ := ns1_entry n12 ho12 hd12 e he
    refine nay ?_
    clear nay
    rw [ex]
    refine wpAny_ite_false (by rw [plainv_laid (vals x _ ev)]; rfl) ?_
    repeat (first | (with_reducible refine wpa_noset (vals x _ ev) ?_) | (first | with_reducible (first | refine wpa_bindK ?_ | refine kp_out ?_ | refine wpAny_pure ?_ | refine forQ_yield ?_ | refine forQ_done ?_ | refine wpa_for_nil ?_ | refine wpa_for_cons ?_ | refine wpAny_rule ?_ | refine wpAny_holding ?_ | refine wpAny_of_eq sub_tuple ?_ | refine wpAny_of_eq sub_dict ?_ | refine wpAny_of_eq sub_type ?_ | refine wpAny_of_eq sub_object ?_ | refine wpAny_of_eq typeOf_object ?_ | refine wpAny_of_eq look_dict_iter ?_ | refine wpAny_of_eq look_type_mro ?_ | refine wpAny_of_eq mro_object ?_ | refine st_seq ?_ | refine st_ext ?_ | refine st_trn ?_ | refine st_read ?_ | refine st_dict ?_ | refine st_nsget ?_ | refine st_newobj ?_ | refine st_nsset ?_ | refine st_nsdel ?_ | refine st_alloc ?_ | refine st_slot ?_ | refine st_ucls ?_ | refine st_hook ?_ | refine st_lin ?_ | refine st_rm ?_ | refine st_mb ?_ | refine st_inst ?_ | refine st_gw ?_ | refine st_note ?_ | refine st_try ?_) | refine wpAny_ite_false rfl ?_ | refine wpAny_ite_true rfl ?_ | wp_delta | wp_step))
    exact hr
  repeat (first | (with_reducible refine st_call ?_) | (first | with_reducible (first | refine wpa_bindK ?_ | refine kp_out ?_ | refine wpAny_pure ?_ | refine forQ_yield ?_ | refine forQ_done ?_ | refine wpa_for_nil ?_ | refine wpa_for_cons ?_ | refine wpAny_rule ?_ | refine wpAny_holding ?_ | refine wpAny_of_eq sub_tuple ?_ | refine wpAny_of_eq sub_dict ?_ | refine wpAny_of_eq sub_type ?_ | refine wpAny_of_eq sub_object ?_ | refine wpAny_of_eq typeOf_object ?_ | refine wpAny_of_eq look_dict_iter ?_ | refine wpAny_of_eq look_type_mro ?_ | refine wpAny_of_eq mro_object ?_ | refine st_seq ?_ | refine st_ext ?_ | refine st_trn ?_ | refine st_read ?_ | refine st_dict ?_ | refine st_nsget ?_ | refine st_newobj ?_ | refine st_nsset ?_ | refine st_nsdel ?_ | refine st_alloc ?_ | refine st_slot ?_ | refine st_ucls ?_ | refine st_hook ?_ | refine st_lin ?_ | refine st_rm ?_ | refine st_mb ?_ | refine st_inst ?_ | refine st_gw ?_ | refine st_note ?_ | refine st_try ?_) | refine wpAny_ite_false rfl ?_ | refine wpAny_ite_true rfl ?_ | wp_delta | wp_step))
  refine unhold (wpa_super (h := h12) (g := g) (d := d) (t := tk10 + 1) (os := os) c12 rfl fun h13 S tk13 k13 hS => ?_)
  have c13 := k13 _ _ c12
  have p13 : NoPack h13 := (hpk.keeps kk).keeps k13
  refine wpAny_bind (wpAny_holding (wpa_isub (h := h13) (g := g) (d := d) (t := tk13) (os := os) c13 rfl hS p13 fun h14 B tk14 k14 hB => ?_))
  have c14 := k14 _ _ c13
  refine wpAny_bind (wpa_hook (h := h14) (g := g) (d := d) (t := tk14) (os := os) c14 rfl rfl (p13.keeps k14) hqn hB fun tk15 => ?_)
  refine wpAny_pure (wpAny_pure ?_)
  have kf : ∀ b o, h12.get? b = some o → h14.get? b = some o := fun b o e => k14 b o (k13 b o e)
  exact hQ h14 a N2 D tD tk15 m12 c14 (n12.at fun o e => kf _ o e) freshN m12e m12o (kf _ _ d12) fun b o e => kf b o (kk b o e)
end Mine
end
section
open PySem PySem.W PySem.W.X PyProof.Rows PySem.Calls
set_option Elab.async false
set_option maxRecDepth 100000
set_option maxHeartbeats 1000000
namespace Mine

theorem made_type : Bind.madeBy (.type "type") = pure (some "type.__new__") := by kernel_rfl
theorem entry_type_new : entryFor table "type.__new__" = some Builtin.«type.__new__» := entryFor_of_tree (by kernel_rfl)
theorem entry_type_init : entryFor table "type.__init__" = some Builtin.«type.__init__» := entryFor_of_tree (by kernel_rfl)
theorem slot_type_init : Slot "type" "__init__" "type.__init__" :=
  .of (owner := "type") (n := "__init__") (by rw [typeLookup_type, builtinLookup_eq_fast]; kernel_rfl) (by decide +kernel) (by decide +kernel) (by decide +kernel)
    (by first | exact .inl (by decide +kernel) | exact .inr (by decide +kernel)) (by rw [isSubtype_type]; kernel_rfl)
theorem args_type_init (a b c d : Value) : argsOk "type.__init__" ⟨[a, b, c, d], []⟩ := by unfold argsOk; kernel_rfl
theorem check_type_new (a b c : Value) : checkBuiltinCall "type.__new__" ⟨[.type "type", a, b, c], []⟩ = pure () := by kernel_rfl
theorem plain_type_new : plainId "type.__new__" = true := by decide +kernel
theorem type_call {prog : Program} {w : World} {A : Around} {E : Value → Shared → Prop} {s : Shared} {a b c : Value} {Q : Value → Shared → Prop}
    (hnew : wpAny (model prog w) A.in1.in1 (Builtin.«type.__new__» ⟨[.type "type", a, b, c], []⟩) (fun f s' => ∃ C cd sl, f = .done (.ret (.ref C)) ∧ s'.heap.get? C = some (co cd sl) ∧ Q (.ref C) s') (fun _ _ => False) s) :
    wpAny (model prog w) A (call (.type "type") [a, b, c]) Q E s := by
  refine wpAny_call (codeAny_of_tree ?_)
  show wpAny _ _ (callAny (.type "type") _) _ _ _
  refine wpAny_pure ⟨Code.quiet_builtin _ (by decide +kernel), codeAny_builtin PySem.F.entry_type_call ?_⟩
  rw [Around.under_plain (weight_type_call_type "type" _ []) rfl]
  obtain ⟨hp, g, d, t, os⟩ := s
  unfold Builtin.«type.__call__»
  iterate 3 (first | with_reducible (first | refine wpa_bindK ?_ | refine kp_out ?_ | refine wpAny_pure ?_ | refine forQ_yield ?_ | refine forQ_done ?_ | refine wpa_for_nil ?_ | refine wpa_for_cons ?_ | refine wpAny_rule ?_ | refine wpAny_holding ?_ | refine wpAny_of_eq sub_tuple ?_ | refine wpAny_of_eq sub_dict ?_ | refine wpAny_of_eq sub_type ?_ | refine wpAny_of_eq sub_object ?_ | refine wpAny_of_eq typeOf_object ?_ | refine wpAny_of_eq look_dict_iter ?_ | refine wpAny_of_eq look_type_mro ?_ | refine wpAny_of_eq mro_object ?_ | refine st_seq ?_ | refine st_ext ?_ | refine st_trn ?_ | refine st_read ?_ | refine st_dict ?_ | refine st_nsget ?_ | refine st_newobj ?_ | refine st_nsset ?_ | refine st_nsdel ?_ | refine st_alloc ?_ | refine st_slot ?_ | refine st_ucls ?_ | refine st_hook ?_ | refine st_lin ?_ | refine st_rm ?_ | refine st_mb ?_ | refine st_inst ?_ | refine st_gw ?_ | refine st_note ?_ | refine st_try ?_) | refine wpAny_ite_false rfl ?_ | refine wpAny_ite_true rfl ?_ | wp_delta | wp_step)
  repeat (first | with_reducible (first | refine wpa_bindK ?_ | refine kp_out ?_ | refine wpAny_pure ?_ | refine forQ_yield ?_ | refine forQ_done ?_ | refine wpa_for_nil ?_ | refine wpa_for_cons ?_ | refine wpAny_rule ?_ | refine wpAny_holding ?_ | refine wpAny_of_eq sub_tuple ?_ | refine wpAny_of_eq sub_dict ?_ | refine wpAny_of_eq sub_type ?_ | refine wpAny_of_eq sub_object ?_ | refine wpAny_of_eq typeOf_object ?_ | refine wpAny_of_eq look_dict_iter ?_ | refine wpAny_of_eq look_type_mro ?_ | refine wpAny_of_eq mro_object ?_ | refine st_seq ?_ | refine st_ext ?_ | refine st_trn ?_ | refine st_read ?_ | refine st_dict ?_ | refine st_nsget ?_ | refine st_newobj ?_ | refine st_nsset ?_ | refine st_nsdel ?_ | refine st_alloc ?_ | refine st_slot ?_ | refine st_ucls ?_ | refine st_hook ?_ | refine st_lin ?_ | refine st_rm ?_ | refine st_mb ?_ | refine st_inst ?_ | refine st_gw ?_ | refine st_note ?_ | refine st_try ?_) | refine wpAny_ite_false rfl ?_ | refine wpAny_ite_true rfl ?_ | wp_delta | wp_step)
  refine unhold (wpAny_of_eq made_type ?_)
  repeat (first | (with_reducible refine st_call ?_) | (first | with_reducible (first | refine wpa_bindK ?_ | refine kp_out ?_ | refine wpAny_pure ?_ | refine forQ_yield ?_ | refine forQ_done ?_ | refine wpa_for_nil ?_ | refine wpa_for_cons ?_ | refine wpAny_rule ?_ | refine wpAny_holding ?_ | refine wpAny_of_eq sub_tuple ?_ | refine wpAny_of_eq sub_dict ?_ | refine wpAny_of_eq sub_type ?_ | refine wpAny_of_eq sub_object ?_ | refine wpAny_of_eq typeOf_object ?_ | refine wpAny_of_eq look_dict_iter ?_ | refine wpAny_of_eq look_type_mro ?_ | refine wpAny_of_eq mro_object ?_ | refine st_seq ?_ | refine st_ext ?_ | refine st_trn ?_ | refine st_read ?_ | refine st_dict ?_ | refine st_nsget ?_ | refine st_newobj ?_ | refine st_nsset ?_ | refine st_nsdel ?_ | refine st_alloc ?_ | refine st_slot ?_ | refine st_ucls ?_ | refine st_hook ?_ | refine st_lin ?_ | refine st_rm ?_ | refine st_mb ?_ | refine st_inst ?_ | refine st_gw ?_ | refine st_note ?_ | refine st_try ?_) | refine wpAny_ite_false rfl ?_ | refine wpAny_ite_true rfl ?_ | wp_delta | wp_step))
  refine unhold (wpAny_call (codeAny_call_builtin plain_type_new entry_type_new (wpAny_of_eq (check_type_new a b c) (wpAny_mono hnew (fun f s' hf => ?_) fun _ _ z => z.elim))))
  obtain ⟨C, cd, sl, rfl, hC, hq⟩ := hf
  obtain ⟨h', g', d', t', os'⟩ := s'
  have hT : (⟨h', g', d', t', os'⟩ : Shared).TypeIs (.ref C) "type" := ⟨_, hC, rfl⟩
  have hlk := slot_type_init.lookup
  dsimp only
  repeat (first | (with_reducible refine st_call ?_) | (with_reducible refine wpAny_typeOf hT ?_) | (with_reducible refine wpAny_of_eq hlk ?_) | (with_reducible refine wpAny_of_eq (slot_type_init.bind _) ?_) | (first | with_reducible (first | refine wpa_bindK ?_ | refine kp_out ?_ | refine wpAny_pure ?_ | refine forQ_yield ?_ | refine forQ_done ?_ | refine wpa_for_nil ?_ | refine wpa_for_cons ?_ | refine wpAny_rule ?_ | refine wpAny_holding ?_ | refine wpAny_of_eq sub_tuple ?_ | refine wpAny_of_eq sub_dict ?_ | refine wpAny_of_eq sub_type ?_ | refine wpAny_of_eq sub_object ?_ | refine wpAny_of_eq typeOf_object ?_ | refine wpAny_of_eq look_dict_iter ?_ | refine wpAny_of_eq look_type_mro ?_ | refine wpAny_of_eq mro_object ?_ | refine st_seq ?_ | refine st_ext ?_ | refine st_trn ?_ | refine st_read ?_ | refine st_dict ?_ | refine st_nsget ?_ | refine st_newobj ?_ | refine st_nsset ?_ | refine st_nsdel ?_ | refine st_alloc ?_ | refine st_slot ?_ | refine st_ucls ?_ | refine st_hook ?_ | refine st_lin ?_ | refine st_rm ?_ | refine st_mb ?_ | refine st_inst ?_ | refine st_gw ?_ | refine st_note ?_ | refine st_try ?_) | refine wpAny_ite_false rfl ?_ | refine wpAny_ite_true rfl ?_ | wp_delta | wp_step))
  refine unhold (wpAny_call_entry slot_type_init hT entry_type_init ?_ (args_type_init _ _ _ _))
  unfold Builtin.«type.__init__»
  repeat (first | with_reducible (first | refine wpa_bindK ?_ | refine kp_out ?_ | refine wpAny_pure ?_ | refine forQ_yield ?_ | refine forQ_done ?_ | refine wpa_for_nil ?_ | refine wpa_for_cons ?_ | refine wpAny_rule ?_ | refine wpAny_holding ?_ | refine wpAny_of_eq sub_tuple ?_ | refine wpAny_of_eq sub_dict ?_ | refine wpAny_of_eq sub_type ?_ | refine wpAny_of_eq sub_object ?_ | refine wpAny_of_eq typeOf_object ?_ | refine wpAny_of_eq look_dict_iter ?_ | refine wpAny_of_eq look_type_mro ?_ | refine wpAny_of_eq mro_object ?_ | refine st_seq ?_ | refine st_ext ?_ | refine st_trn ?_ | refine st_read ?_ | refine st_dict ?_ | refine st_nsget ?_ | refine st_newobj ?_ | refine st_nsset ?_ | refine st_nsdel ?_ | refine st_alloc ?_ | refine st_slot ?_ | refine st_ucls ?_ | refine st_hook ?_ | refine st_lin ?_ | refine st_rm ?_ | refine st_mb ?_ | refine st_inst ?_ | refine st_gw ?_ | refine st_note ?_ | refine st_try ?_) | refine wpAny_ite_false rfl ?_ | refine wpAny_ite_true rfl ?_ | wp_delta | wp_step)
  refine ⟨_, rfl, ?_⟩
  repeat (first | with_reducible (first | refine wpa_bindK ?_ | refine kp_out ?_ | refine wpAny_pure ?_ | refine forQ_yield ?_ | refine forQ_done ?_ | refine wpa_for_nil ?_ | refine wpa_for_cons ?_ | refine wpAny_rule ?_ | refine wpAny_holding ?_ | refine wpAny_of_eq sub_tuple ?_ | refine wpAny_of_eq sub_dict ?_ | refine wpAny_of_eq sub_type ?_ | refine wpAny_of_eq sub_object ?_ | refine wpAny_of_eq typeOf_object ?_ | refine wpAny_of_eq look_dict_iter ?_ | refine wpAny_of_eq look_type_mro ?_ | refine wpAny_of_eq mro_object ?_ | refine st_seq ?_ | refine st_ext ?_ | refine st_trn ?_ | refine st_read ?_ | refine st_dict ?_ | refine st_nsget ?_ | refine st_newobj ?_ | refine st_nsset ?_ | refine st_nsdel ?_ | refine st_alloc ?_ | refine st_slot ?_ | refine st_ucls ?_ | refine st_hook ?_ | refine st_lin ?_ | refine st_rm ?_ | refine st_mb ?_ | refine st_inst ?_ | refine st_gw ?_ | refine st_note ?_ | refine st_try ?_) | refine wpAny_ite_false rfl ?_ | refine wpAny_ite_true rfl ?_ | wp_delta | wp_step)
  exact hq
end Mine
end
section
open PySem PySem.W PySem.W.X PyProof.Rows PySem.Calls
set_option Elab.async false
set_option maxRecDepth 100000
set_option maxHeartbeats 1000000
namespace Mine

theorem st_ga {M : Model} {A : Around} {E : Value → Shared → Prop} {s : Shared} {a b} {Q} (h : Hold (wpAny M A (getAttr? a b) Q E s)) : wpAny M A (getAttr? a b) Q E s := h
theorem st_cc {M : Model} {A : Around} {E : Value → Shared → Prop} {s : Shared} {a b c d e f} {Q} (h : Hold (wpAny M A (classCode a b c d e f) Q E s)) : wpAny M A (classCode a b c d e f) Q E s := h
theorem look_type_prep : typeLookup (.type "type") "__prepare__" = pure (some (.builtin "type.__prepare__")) := by rw [typeLookup_type, builtinLookup_eq_fast]; kernel_rfl
theorem typeOf_prep : typeOf (.builtin "type.__prepare__") = pure (.type "classmethod_descriptor") := by kernel_rfl
theorem typeOf_type : typeOf (.type "type") = pure (.type "type") := by kernel_rfl
theorem opq_type : opaqueClassAbove (.type "type") = pure none := by kernel_rfl
theorem look_cmd_set : typeLookup (.type "classmethod_descriptor") "__set__" = pure none := by rw [typeLookup_type, builtinLookup_eq_fast]; kernel_rfl
theorem look_cmd_del : typeLookup (.type "classmethod_descriptor") "__delete__" = pure none := by rw [typeLookup_type, builtinLookup_eq_fast]; kernel_rfl
theorem owner_prep : (kfb_private% "ownerAndName") "type.__prepare__" = ("type", "__prepare__") := by first | decide +kernel | kernel_rfl
theorem prep_get {M : Model} {A : Around} {E : Value → Shared → Prop} {s : Shared} {P : PySem.Fin → Shared → Prop} 
    (hq : P (.done (.ret (.ref s.heap.objs.size))) { s with heap := s.heap.push { cls := .type "builtin_function_or_method", data := .fields #[.builtin "type.__prepare__", .type "type"] } }) :
    wpAny M A (Builtin.«classmethod_descriptor.__get__» ⟨[.builtin "type.__prepare__", .none, .type "type"], []⟩) P E s := by
  unfold Builtin.«classmethod_descriptor.__get__»
  refine wpAny_bind (wpAny_of_eq (a := (.builtin "type.__prepare__", none, some (.type "type"))) (by first | rfl | kernel_rfl) ?_)
  simp only [owner_prep]
  refine wpAny_bind (wpAny_of_eq (a := .type "type") rfl ?_)
  refine wpAny_bind (wpAny_of_eq (a := true) rfl ?_)
  refine if_not' rfl ?_
  refine wpAny_bind (wpAny_of_eq sub_type ?_)
  refine if_not' rfl ?_
  exact wpAny_bind (wpAny_newObj_type (wpAny_pure hq))
theorem prep {prog : Program} {w : World} {A : Around} {E : Value → Shared → Prop} {Q : Option Value → Shared → Prop} {h : Heap} {g : Array GenState} {d : Drawn} {t : Nat} {os : OsState} 
    (hq : ∀ tk, Q (some (.ref h.objs.size)) ⟨h.push { cls := .type "builtin_function_or_method", data := .fields #[.builtin "type.__prepare__", .type "type"] }, g, d, tk, os⟩) :
    wpAny (model prog w) A (getAttr? (.type "type") "__prepare__") Q E ⟨h, g, d, t, os⟩ := by
  have hT : ∀ t', (⟨h, g, d, t', os⟩ : Shared).TypeIs (.type "type") "type" := fun _ => typeOf_type
  have tD : ∀ tk, (⟨h, g, d, tk, os⟩ : Shared).TypeIs (.builtin "type.__prepare__") "classmethod_descriptor" := fun _ => typeOf_prep
  have hlk := KF.slot_tga.lookup
  unfold getAttr? getAttrBy?
  refine wpAny_bind (wpAny_mkText (wpAny_bind (wpAny_attempt ?_)))
  unfold getAttrBy
  refine wpAny_holding (wpAny_bind (wpAny_typeOf (hT _) (wpAny_bind (wpAny_of_eq hlk ?_))))
  show wpAny _ _ (getAttrByItsOwn (.type "type") (.str "__prepare__" t) (.type "type") (.builtin "type.__getattribute__") false false) _ _ _
  unfold getAttrByItsOwn hookBefore callGetattribute boundAndCalled
  refine wpAny_bind (wpAny_of_eq (show (if onTheHeap (.type "type") then typeLookup (.type "type") "__getattr__" else pure none) = pure none from rfl) ?_)
  refine wpAny_bind (wpAny_attempt (wpAny_holding ?_))
  show wpAny _ _ (bindSpecial (.builtin "type.__getattribute__") (.type "type") >>= _) _ _ _
  refine wpAny_bind (wpAny_of_eq (KF.slot_tga.bind _) ?_)
  refine wpAny_call_entry KF.slot_tga (hT _) KF.entry_tga ?_ (KF.args_tga _ _)
  unfold Builtin.«type.__getattribute__»
  repeat (first | (with_reducible refine wpAny_of_eq opq_type ?_) | (with_reducible refine st_call ?_) | (with_reducible refine wpAny_of_eq typeOf_type ?_) | (with_reducible refine wpAny_of_eq look_type_prep ?_) | (with_reducible refine wpAny_of_eq typeOf_prep ?_) | (with_reducible refine wpAny_of_eq look_cmd_get ?_) | (with_reducible refine wpAny_of_eq look_cmd_set ?_) | (with_reducible refine wpAny_of_eq look_cmd_del ?_) | (first | with_reducible (first | refine wpa_bindK ?_ | refine kp_out ?_ | refine wpAny_pure ?_ | refine forQ_yield ?_ | refine forQ_done ?_ | refine wpa_for_nil ?_ | refine wpa_for_cons ?_ | refine wpAny_rule ?_ | refine wpAny_holding ?_ | refine wpAny_of_eq sub_tuple ?_ | refine wpAny_of_eq sub_dict ?_ | refine wpAny_of_eq sub_type ?_ | refine wpAny_of_eq sub_object ?_ | refine wpAny_of_eq typeOf_object ?_ | refine wpAny_of_eq look_dict_iter ?_ | refine wpAny_of_eq look_type_mro ?_ | refine wpAny_of_eq mro_object ?_ | refine st_seq ?_ | refine st_ext ?_ | refine st_trn ?_ | refine st_read ?_ | refine st_dict ?_ | refine st_nsget ?_ | refine st_newobj ?_ | refine st_nsset ?_ | refine st_nsdel ?_ | refine st_alloc ?_ | refine st_slot ?_ | refine st_ucls ?_ | refine st_hook ?_ | refine st_lin ?_ | refine st_rm ?_ | refine st_mb ?_ | refine st_inst ?_ | refine st_gw ?_ | refine st_note ?_ | refine st_try ?_) | refine wpAny_ite_false rfl ?_ | refine wpAny_ite_true rfl ?_ | wp_delta | wp_step))
  refine unhold (wpAny_call_entry KFB.slot_get (tD _) KFB.entry_get (prep_get ?_) (KFB.args_get _ _ _))
  refine ⟨_, rfl, ?_⟩
  repeat (first | with_reducible (first | refine wpa_bindK ?_ | refine kp_out ?_ | refine wpAny_pure ?_ | refine forQ_yield ?_ | refine forQ_done ?_ | refine wpa_for_nil ?_ | refine wpa_for_cons ?_ | refine wpAny_rule ?_ | refine wpAny_holding ?_ | refine wpAny_of_eq sub_tuple ?_ | refine wpAny_of_eq sub_dict ?_ | refine wpAny_of_eq sub_type ?_ | refine wpAny_of_eq sub_object ?_ | refine wpAny_of_eq typeOf_object ?_ | refine wpAny_of_eq look_dict_iter ?_ | refine wpAny_of_eq look_type_mro ?_ | refine wpAny_of_eq mro_object ?_ | refine st_seq ?_ | refine st_ext ?_ | refine st_trn ?_ | refine st_read ?_ | refine st_dict ?_ | refine st_nsget ?_ | refine st_newobj ?_ | refine st_nsset ?_ | refine st_nsdel ?_ | refine st_alloc ?_ | refine st_slot ?_ | refine st_ucls ?_ | refine st_hook ?_ | refine st_lin ?_ | refine st_rm ?_ | refine st_mb ?_ | refine st_inst ?_ | refine st_gw ?_ | refine st_note ?_ | refine st_try ?_) | refine wpAny_ite_false rfl ?_ | refine wpAny_ite_true rfl ?_ | wp_delta | wp_step)
  refine ⟨_, rfl, ?_⟩
  repeat (first | with_reducible (first | refine wpa_bindK ?_ | refine kp_out ?_ | refine wpAny_pure ?_ | refine forQ_yield ?_ | refine forQ_done ?_ | refine wpa_for_nil ?_ | refine wpa_for_cons ?_ | refine wpAny_rule ?_ | refine wpAny_holding ?_ | refine wpAny_of_eq sub_tuple ?_ | refine wpAny_of_eq sub_dict ?_ | refine wpAny_of_eq sub_type ?_ | refine wpAny_of_eq sub_object ?_ | refine wpAny_of_eq typeOf_object ?_ | refine wpAny_of_eq look_dict_iter ?_ | refine wpAny_of_eq look_type_mro ?_ | refine wpAny_of_eq mro_object ?_ | refine st_seq ?_ | refine st_ext ?_ | refine st_trn ?_ | refine st_read ?_ | refine st_dict ?_ | refine st_nsget ?_ | refine st_newobj ?_ | refine st_nsset ?_ | refine st_nsdel ?_ | refine st_alloc ?_ | refine st_slot ?_ | refine st_ucls ?_ | refine st_hook ?_ | refine st_lin ?_ | refine st_rm ?_ | refine st_mb ?_ | refine st_inst ?_ | refine st_gw ?_ | refine st_note ?_ | refine st_try ?_) | refine wpAny_ite_false rfl ?_ | refine wpAny_ite_true rfl ?_ | wp_delta | wp_step)
  exact hq _

theorem entry_prep : entryFor table "type.__prepare__" = some Builtin.«type.__prepare__» := entryFor_of_tree (by kernel_rfl)
theorem prep_call {prog : Program} {w : World} {A : Around} {E : Value → Shared → Prop} {Q : Value → Shared → Prop} {h : Heap} {g : Array GenState} {d : Drawn} {t : Nat} {os : OsState} {B bT : Addr} {tk : Tok} (hB : h.get? B = some { cls := .type "builtin_function_or_method", data := .fields #[.builtin "type.__prepare__", .type "type"] })
    (hq : Q (.ref h.objs.size) ⟨h.push { cls := .type "dict", data := .dict #[] }, g, d, t, os⟩) :
    wpAny (model prog w) A (call (.ref B) [.str "K" tk, .ref bT]) Q E ⟨h, g, d, t, os⟩ := by
  refine wpAny_call (codeAny_of_tree ?_)
  show wpAny _ A.in1 (callAny (.ref B) ⟨[.str "K" tk, .ref bT], []⟩) _ _ _
  simp only [callAny]
  refine wpAny_bind (wpAny_load hB ?_)
  refine if_so' rfl ?_
  refine if_so' rfl ?_
  refine wpAny_bind (wpAny_of_eq (a := ()) (show checkBoundCall "type.__prepare__" ⟨[.type "type", .str "K" tk, .ref bT], []⟩ = pure () by kernel_rfl) ?_)
  refine wpAny_pure ⟨Code.quiet_builtin _ (by decide +kernel), codeAny_builtin entry_prep ?_⟩
  unfold Builtin.«type.__prepare__» newDict
  refine wpAny_bind (wpAny_newObj_type (wpAny_pure ?_))
  exact hq
end Mine
end
section
open PySem PySem.W PySem.W.X PyProof.Rows PySem.Calls
set_option Elab.async false
set_option maxRecDepth 100000
set_option maxHeartbeats 1000000
namespace Mine
/-! ## codes and their tables -/
theorem codeAmong_more {pos : Pos} {v : Value} : ∀ (l r : List Value), codeAmong pos l = some v → codeAmong pos (l ++ r) = some v
  | [], _, e => by simp [codeAmong] at e
  | [_], _, e => by simp [codeAmong] at e
  | [_, _], _, e => by simp [codeAmong] at e
  | a :: b :: c :: rest, r, e => by
    unfold codeAmong at e
    split at e
    · rename_i x1 x2 x3 x4 x5 x6 heq
      refine Classical.byContradiction fun nay => ?_
      cases heq
      refine nay ?_
      clear nay
      simp only [List.cons_append, codeAmong]
      split at e
      · rename_i h; rw [if_pos h]; exact e
      · rename_i h; rw [if_neg h]; exact codeAmong_more _ r e
    · cases e
theorem codeAmong_last {p pos : Pos} {c v : Value} : ∀ (l : List Value), TriplesOk l → codeAmong pos (l ++ [rawInt p.line, rawInt p.col, c]) = some v → codeAmong pos l = some v ∨ (v = c ∧ pos.line = p.line ∧ pos.col = p.col)
  | l, ht, e => by
    fun_induction TriplesOk l with
    | case1 =>
      simp only [List.nil_append, codeAmong, rawInt] at e
      split at e
      · rename_i h
        refine Classical.byContradiction fun nay => ?_
        cases e
        refine nay ?_
        clear nay
        simp only [Bool.and_eq_true, beq_iff_eq] at h
        exact .inr ⟨rfl, by omega, by omega⟩
      · cases e
    | case2 a t b u x rest ih =>
      simp only [List.cons_append, codeAmong] at e ⊢
      split
      · rename_i h; rw [if_pos h] at e; exact .inl e
      · rename_i h; rw [if_neg h] at e; exact ih ht e
    | case3 l h1 h2 => exact ht.elim
/-- a code object and its table, whose entries are as q says -/
structure Codes (h : Heap) (c P : Addr) (q : Pos → Str) : Prop where
  ex : ∃ ps, h.IsCode c P ps ∧ h.TableAt c P ps ∧ ∀ pos v, codeAmong pos ps.toList = some v → CodeOk h v (q pos)
theorem codeOk_calm {h h' : Heap} {v : Value} {q : Str} (k : Calm h h') (x : CodeOk h v q) : CodeOk h' v q :=
  by obtain ⟨c, o, vs, t, a, b, cl, d, e⟩ := x.ok; exact ⟨c, o, vs, t, a, k c o vs b d (.inr cl), cl, d, e⟩
theorem Codes.calm {h h' : Heap} {c P : Addr} {q : Pos → Str} (k : Calm h h') (x : Codes h c P q) : Codes h' c P q := by
  refine Classical.byContradiction fun nay => ?_
  obtain ⟨ps, a, b, e⟩ := x.ex
  obtain ⟨o, vs, file, tf, flags, tg, inF, text, tt, op, ho, hd, r1, r2, r3, r4, r5, hop, hpd, r6⟩ := id a
  obtain ⟨⟨oc, vc, hoc, hcc, hdc, h11⟩, hP⟩ := id b
  refine nay ?_
  clear nay
  rw [ho] at hoc; cases hoc
  have e1 := k c o vs ho hd (.inr hcc)
  have e2 := k P _ ps hP rfl (.inl rfl)
  rw [hop] at hP; cases hP
  exact ⟨ps, ⟨o, vs, file, tf, flags, tg, inF, text, tt, _, e1, hd, r1, r2, r3, r4, r5, e2, rfl, r6⟩, ⟨⟨o, vc, e1, hcc, hdc, h11⟩, e2⟩, fun pos v z => codeOk_calm k (e pos v z)⟩
/-- all but P as it was, P grown -/
structure Grown (h h' : Heap) (P : Addr) : Prop where
  but : ∀ b o, b ≠ P → h.get? b = some o → h'.get? b = some o
  tab : ∃ ps more, h.get? P = some (tableObj ps) ∧ h'.get? P = some (tableObj (ps ++ more))
theorem Grown.refl {h : Heap} {c P : Addr} {ps : Array Value} (x : h.TableAt c P ps) : Grown h h P := ⟨fun _ _ _ e => e, ps, #[], x.2, by rw [Array.append_empty]; exact x.2⟩
theorem Grown.codeOk {h h' : Heap} {P : Addr} {v : Value} {q : Str} (g : Grown h h' P) (x : CodeOk h v q) : CodeOk h' v q := by
  refine Classical.byContradiction fun nay => ?_
  obtain ⟨c, o, vs, t, a, b, cl, d, e⟩ := x.ok
  refine nay ?_
  clear nay
  refine ⟨c, o, vs, t, a, g.but c o (fun z => ?_) b, cl, d, e⟩
  refine Classical.byContradiction fun nay => ?_
  obtain ⟨ps, more, hp, _⟩ := g.tab
  refine nay ?_
  clear nay
  rw [z, hp] at b; cases b; cases cl
theorem Grown.codes {h h' : Heap} {P c P' : Addr} {q : Pos → Str} (g : Grown h h' P) (x : Codes h c P' q) (hP : P' ≠ P) : Codes h' c P' q := by
  refine Classical.byContradiction fun nay => ?_
  obtain ⟨ps, a, b, e⟩ := x.ex
  obtain ⟨o, vs, file, tf, flags, tg, inF, text, tt, op, ho, hd, r1, r2, r3, r4, r5, hop, hpd, r6⟩ := id a
  obtain ⟨⟨oc, vc, hoc, hcc, hdc, h11⟩, hPt⟩ := id b
  refine nay ?_
  clear nay
  rw [ho] at hoc; cases hoc
  have hcP : c ≠ P := fun z => by
    refine Classical.byContradiction fun nay => ?_
    obtain ⟨ps', more, hp, _⟩ := g.tab
    refine nay ?_
    clear nay
    rw [z, hp] at ho; cases ho; cases hcc
  have e1 := g.but c o hcP ho
  have e2 := g.but P' _ hP hPt
  rw [hop] at hPt; cases hPt
  exact ⟨ps, ⟨o, vs, file, tf, flags, tg, inF, text, tt, _, e1, hd, r1, r2, r3, r4, r5, e2, rfl, r6⟩, ⟨⟨o, vc, e1, hcc, hdc, h11⟩, e2⟩, fun pos v z => g.codeOk (e pos v z)⟩
theorem Grown.ext {T : Tb} {h h' : Heap} {P : Addr} (g : Grown h h' P) (hp : T.p P) : Ext T h h' := fun b o _ e => by
  by_cases z : b = P
  · refine Classical.byContradiction fun nay => ?_
    obtain ⟨ps, more, h1, h2⟩ := g.tab
    refine nay ?_
    clear nay
    rw [z, h1] at e; cases e
    exact .inr ⟨z ▸ hp, ps, more, rfl, z ▸ h2⟩
  · exact .inl (g.but b o z e)
section
variable {M : Model} {A : Around} {E : Value → Shared → Prop} {s : Shared}
/-- the code of a block: found, or made -/
theorem code_at {env : Env} {c P : Addr} {q : Pos → Str} {pos : Pos} {make : CodeContext → Sem Value} {Q : Value → Shared → Prop} (hc : env.code = .ref c) (hok : Codes s.heap c P q)
    (hmk : ∀ ctx (Q' : Value → Shared → Prop), (∀ c' P' h' tk, (∀ b o, s.heap.get? b = some o → h'.get? b = some o) → s.heap.objs.size ≤ c' → s.heap.objs.size ≤ P' → h'.IsCode c' P' #[] → h'.TableAt c' P' #[] → h'.CodeRec (.ref c') (q pos) → Q' (.ref c') { s with heap := h', toks := tk }) → wpAny M A (make ctx) Q' E s)
    (hq' : ∀ p, p.line = pos.line → p.col = pos.col → q p = q pos)
    (hfound : ∀ v ps, s.heap.IsCode c P ps → s.heap.TableAt c P ps → codeAmong pos ps.toList = some v → CodeOk s.heap v (q pos) → Q v s)
    (hnew : ∀ c' P' h' tk ps, s.heap.TableAt c P ps → h'.TableAt c P (ps ++ #[rawInt pos.line, rawInt pos.col, .ref c']) → codeAmong pos ps.toList = none → Grown s.heap h' P → Codes h' c P q → s.heap.objs.size ≤ c' → s.heap.objs.size ≤ P' → CodeOk h' (.ref c') (q pos) → h'.IsCode c' P' #[] → h'.TableAt c' P' #[] → Q (.ref c') { s with heap := h', toks := tk }) : wpAny M A (codeAt env pos make) Q E s := by
  refine Classical.byContradiction fun nay => ?_
  obtain ⟨ps, hcode, htab, hent⟩ := hok.ex
  refine nay ?_
  clear nay
  cases hf : codeAmong pos ps.toList with
  | some v => exact wpAny_codeAt_hit hc hcode hf (hfound v ps hcode htab hf (hent pos v hf))
  | none =>
    refine Classical.byContradiction fun nay => ?_
    obtain ⟨o, vs, file, tf, flags, tg, inF, text, tt, op, ho, hd, h11, h2, h7, h9, h10, hop, hpd, htr, hne⟩ := id hcode
    obtain ⟨⟨oc, vc, hoc, hcc, hdc, h11c⟩, htP⟩ := id htab
    have e1 : op = tableObj ps := Option.some.inj (hop.symm.trans htP)
    subst e1
    refine nay ?_
    clear nay
    unfold codeAt
    rw [hc, if_neg (show ¬ ((Value.ref c == Value.none) = true) from Bool.false_ne_true)]
    refine wpAny_bind (wpAny_fieldsOf ho hd ?_)
    rw [h11]
    refine wpAny_bind (wpAny_fieldsOf hop hpd ?_)
    rw [hf, h2, h7, h9, h10]
    refine wpAny_bind (hmk _ _ fun c' P' h' tk hk hc' hP' hcode' htab' hrec' => ?_)
    have hop' := hk _ _ hop
    refine wpAny_bind (wpAny_updateFieldsOfTheText hop' hpd ?_)
    generalize hu : (fun vs : Array Value => if (codeAmong pos vs.toList).isSome = true then vs else vs ++ #[rawInt pos.line, rawInt pos.col, Value.ref c']) = f
    have hfp : f ps = ps ++ #[rawInt pos.line, rawInt pos.col, .ref c'] := by rw [← hu]; show (if _ then _ else _) = _; rw [hf]; rfl
    have hget : (h'.update P (Obj.mapFields f)).get? P = some (tableObj (ps ++ #[rawInt pos.line, rawInt pos.col, .ref c'])) := by
      rw [Heap.get?_update_self _ hop' rfl]
      show some (tableObj (f ps)) = _
      rw [hfp]
    have hsb := Heap.SameBut.update h' P (Obj.mapFields f)
    refine wpAny_bind (wpAny_fieldsOf hget rfl ?_)
    have hl : (ps ++ #[rawInt pos.line, rawInt pos.col, Value.ref c']).toList = ps.toList ++ [rawInt pos.line, rawInt pos.col, .ref c'] := by simp
    rw [hl, codeAmong_snoc _ htr hf]
    have hcP : c' ≠ P := Nat.ne_of_gt (Nat.lt_of_lt_of_le (Heap.lt_size hop) hc')
    have hPP : P' ≠ P := Nat.ne_of_gt (Nat.lt_of_lt_of_le (Heap.lt_size hop) hP')
    have but : ∀ b o, b ≠ P → s.heap.get? b = some o → (h'.update P (Obj.mapFields f)).get? b = some o := fun b o hb e => hsb.extBut b o hb (hk b o e)
    have grown : Grown s.heap (h'.update P (Obj.mapFields f)) P := ⟨but, ps, _, htP, hget⟩
    have ct' : (h'.update P (Obj.mapFields f)).TableAt c' P' #[] := by obtain ⟨⟨oc, vc, a1, a2, a3, a4⟩, b⟩ := htab'; exact ⟨⟨oc, vc, hsb.extBut _ _ hcP a1, a2, a3, a4⟩, hsb.extBut _ _ hPP b⟩
    have cok : CodeOk (h'.update P (Obj.mapFields f)) (.ref c') (q pos) := by
      refine Classical.byContradiction fun nay => ?_
      obtain ⟨c₂, o₂, vs₂, t₂, e₂, g₂, d₂, r₂⟩ := hrec'
      cases e₂
      obtain ⟨⟨oc, vc, a1, a2, a3, a4⟩, _⟩ := htab'
      refine nay ?_
      clear nay
      rw [g₂] at a1; cases a1
      exact ⟨_, o₂, vs₂, t₂, rfl, hsb.extBut _ _ hcP g₂, a2, d₂, r₂⟩
    have tab : (h'.update P (Obj.mapFields f)).TableAt c P (ps ++ #[rawInt pos.line, rawInt pos.col, .ref c']) := ⟨⟨oc, vc, but c oc hne hoc, hcc, hdc, h11c⟩, hget⟩
    refine wpAny_pure (hnew c' P' _ _ ps htab tab hf grown ⟨_, ⟨o, vs, file, tf, flags, tg, inF, text, tt, _, but c o hne ho, hd, h11, h2, h7, h9, h10, hget, rfl, ?_, hne⟩, tab, ?_⟩ hc' hP' cok (hcode'.extBut hsb.extBut hcP hPP) ct')
    · rw [hl]; exact TriplesOk_snoc _ _ _ _ htr
    · intro p v hv
      rw [hl] at hv
      rcases codeAmong_last _ htr hv with hv' | ⟨rfl, e1, e2⟩
      · exact grown.codeOk (hent p v hv')
      · rw [hq' p e1 e2]; exact cok
end
end Mine
end
section
open PySem PySem.W PySem.W.X PyProof.Rows PySem.Calls
set_option Elab.async false
set_option maxRecDepth 100000
set_option maxHeartbeats 1000000
namespace Mine
/-! ## the three tables: join's, law's, cmp_to_key's -/
structure Tab where
  c : Addr
  P : Addr
  q : Pos → Str
structure Tx where
  tabs : List Tab
  ck : Addr
  Pk : Addr
  kpos : Pos
  qk : Pos → Str
  n0 : Nat
structure Tx.Good (t : Tx) : Prop where
  nk : ∀ b ∈ t.tabs, b.P ≠ t.Pk
  lt : ∀ b ∈ t.tabs, b.P < t.n0
  same : ∀ b ∈ t.tabs, ∀ d ∈ t.tabs, b.P = d.P → b = d
  k0 : t.Pk < t.n0
noncomputable abbrev nameK : Str := "cmp_to_key.<locals>.K"
structure Oks (t : Tx) (h : Heap) : Prop where
  tb : ∀ b ∈ t.tabs, Codes h b.c b.P b.q
  k : Codes h t.ck t.Pk (fun _ => nameK)
  kk : ∀ ps, h.get? t.Pk = some (tableObj ps) → ps = #[] ∨ ∃ c P, ps = #[rawInt t.kpos.line, rawInt t.kpos.col, .ref c] ∧ Codes h c P t.qk ∧ t.n0 ≤ P
theorem tableObj_inj {ps qs : Array Value} (e : some (tableObj ps) = some (tableObj qs)) : ps = qs := by
  have := congrArg Obj.data (Option.some.inj e)
  simpa [tableObj] using this
theorem Codes.tab {h : Heap} {c P : Addr} {q : Pos → Str} (x : Codes h c P q) : ∃ ps, h.get? P = some (tableObj ps) := by obtain ⟨ps, _, b, _⟩ := x.ex; exact ⟨ps, b.2⟩
theorem Oks.calm {t : Tx} {h h' : Heap} (x : Oks t h) (k : Calm h h') : Oks t h' := by
  refine ⟨fun b hb => (x.tb b hb).calm k, x.k.calm k, fun ps e => ?_⟩
  obtain ⟨ps0, e0⟩ := x.k.tab
  have e1 := k t.Pk _ ps0 e0 rfl (.inl rfl)
  rw [e] at e1
  obtain rfl := tableObj_inj e1
  rcases x.kk _ e0 with z | ⟨c, P, z, a, b⟩
  · exact .inl z
  · exact .inr ⟨c, P, z, a.calm k, b⟩
noncomputable def Tx.tb (t : Tx) (loose : Prop) : Tb := ⟨fun b => (∃ d ∈ t.tabs, b = d.P) ∨ b = t.Pk ∨ t.n0 ≤ b, Oks t, fun _ _ x k => x.calm k, loose⟩
/-- a table other than cmp_to_key's has grown -/
theorem Oks.other {t : Tx} {h h' : Heap} {P : Addr} (x : Oks t h) (g : Grown h h' P) (hk : t.Pk ≠ P) (hj : ∀ b ∈ t.tabs, b.P ≠ P ∨ Codes h' b.c b.P b.q) (hc : ∀ c P', Codes h c P' t.qk → t.n0 ≤ P' → h.get? t.Pk = some (tableObj #[rawInt t.kpos.line, rawInt t.kpos.col, .ref c]) → P' ≠ P ∨ Codes h' c P' t.qk) : Oks t h' := by
  refine ⟨fun b hb => (hj b hb).elim (fun z => g.codes (x.tb b hb) z) id, g.codes x.k hk, fun ps e => ?_⟩
  obtain ⟨ps0, e0⟩ := x.k.tab
  have e1 := g.but _ _ hk e0
  rw [e] at e1
  obtain rfl := tableObj_inj e1
  rcases x.kk _ e0 with z | ⟨c, P', z, a, b⟩
  · exact .inl z
  · rcases hc c P' a b (z ▸ e0) with w | w
    · exact .inr ⟨c, P', z, g.codes a w, b⟩
    · exact .inr ⟨c, P', z, w, b⟩
/-- the class code that cmp_to_key's table holds -/
noncomputable def InK (t : Tx) (h : Heap) (c : Addr) : Prop := h.get? t.Pk = some (tableObj #[rawInt t.kpos.line, rawInt t.kpos.col, .ref c])

section
variable {κ : Cx} {t : Tx} {lo : Prop} {A : Around} {s : Shared}
theorem InK.ext {h h' : Heap} {c : Addr} (hT : κ.T = t.tb lo) (o' : Oks t h') (x : InK t h c) (k : Ext κ.T h h') : InK t h' c := by
  rcases k _ _ (fun f => f) x with e | ⟨_, ps, more, e1, e2⟩
  · exact e
  · have e1' := tableObj_inj (congrArg some e1)
    subst e1'
    rcases o'.kk _ e2 with z | ⟨c', P, z, _⟩
    · exfalso
      have := congrArg Array.size z
      simp at this
    · have hs := congrArg Array.size z
      simp only [Array.size_append, List.size_toArray, List.length_cons, List.length_nil] at hs
      have hm : more = #[] := Array.eq_empty_of_size_eq_zero (by omega)
      rw [hm, Array.append_empty] at e2
      exact e2
theorem Lt.of_grown {h' : Heap} {tk : Nat} {P : Addr} (hT : κ.T = t.tb lo) (hp : (t.tb lo).p P) (g : Grown s.heap h' P) (ok : Oks t h') : Lt κ.T NoX s ⟨h', s.gens, s.drawn, tk, s.os⟩ := by
  subst_vars
  rw [hT]
  exact ⟨g.ext hp, id, rfl, fun _ => ok, fun _ => ⟨rfl, rfl⟩⟩
theorem function_mk {firstLine : Nat} {name qualname : Str} {p : Arguments} {scope : Scope} {body : FuncBody} {c : CodeContext} {M : Model} {E : Value → Shared → Prop} (Q' : Value → Shared → Prop) (hq : ∀ c' P' h' tk, (∀ b o, s.heap.get? b = some o → h'.get? b = some o) → s.heap.objs.size ≤ c' → s.heap.objs.size ≤ P' → h'.IsCode c' P' #[] → h'.TableAt c' P' #[] → h'.CodeRec (.ref c') qualname → Q' (.ref c') { s with heap := h', toks := tk }) :
    wpAny M A (newCode c name qualname firstLine (p.posonlyargs.length + p.args.length) p.posonlyargs.length p.kwonlyargs.length
      (functionFlags p.vararg.isSome p.kwarg.isSome scope c) scope.freeNames true none (localNames p scope body)
      (some { name, qualname, params := p, body, scope, globals := builtinsNs, closure := [], defaults := .none, kwdefaults := .none })) Q' E s :=
  wpAny_newCodeX fun c' P' h' tk a1 a2 a3 a4 a5 a6 => hq c' P' h' tk a1 a2 a3 a4 a5 a6
/-- one of the tables has grown -/
theorem Oks.grown {h' : Heap} {b : Tab} (ok : Oks t s.heap) (hg : t.Good) (hb : b ∈ t.tabs) (g : Grown s.heap h' b.P) (cs : Codes h' b.c b.P b.q) : Oks t h' :=
  ok.other g (hg.nk b hb).symm (fun d hd => by
    by_cases e : d.P = b.P
    · exact .inr (hg.same d hd b hb e ▸ cs)
    · exact .inl e) fun c P a n _ => .inl (Nat.ne_of_gt (Nat.lt_of_lt_of_le (hg.lt b hb) n))
/-- a lambda's code, within a def that has a table -/
theorem coder_law {env : Env} {b : Tab} {pos : Pos} {firstLine : Nat} {name : Str} {p : Arguments} {scope : Scope} {body : FuncBody} (hT : κ.T = t.tb lo) (hg : t.Good) (hb : b ∈ t.tabs) (hc : env.code = .ref b.c) (hq' : ∀ p, p.line = pos.line → p.col = pos.col → b.q p = b.q pos) (ok : Oks t s.heap) :
    wpAny κ.M A (functionCode env pos firstLine name (b.q pos) p scope body) (fun v s' => CodeOk s'.heap v (b.q pos) ∧ Lt κ.T NoX s s') (fun _ _ => False) s := by
  unfold functionCode
  exact code_at hc (ok.tb b hb) (fun ctx Q' hQ => function_mk Q' hQ) hq' (fun v ps _ _ _ z => ⟨z, .refl _⟩) fun c' P' h' tk ps tb tb' hf g cs hc' hP' cok _ _ => ⟨cok, Lt.of_grown hT (.inl ⟨b, hb, rfl⟩) g (ok.grown hg hb g cs)⟩
theorem coder_cls {env : Env} {firstLine : Nat} {name : Str} {scope : Scope} (hT : κ.T = t.tb lo) (hg : t.Good) (hc : env.code = .ref t.ck) (hn0 : t.n0 ≤ s.heap.objs.size) (ok : Oks t s.heap) :
    wpAny κ.M A (classCode env t.kpos firstLine name nameK scope) (fun v s' => ∃ c, v = .ref c ∧ CodeOk s'.heap v nameK ∧ InK t s'.heap c ∧ Lt κ.T NoX s s') (fun _ _ => False) s := by
  unfold classCode
  refine code_at (q := fun _ => nameK) hc ok.k (fun ctx Q' hQ => wpAny_newCodeX fun c' P' h' tk a1 a2 a3 a4 a5 a6 => hQ c' P' h' tk a1 a2 a3 a4 a5 a6) (fun _ _ _ => rfl) (fun v ps hcode htab hf z => ?_) fun c' P' h' tk ps tb tb' hf g cs hc' hP' cok ic' tab' => ?_
  · rcases ok.kk _ htab.2 with e | ⟨c, P, e, _⟩
    · subst e; simp [codeAmong] at hf
    · subst e
      simp [codeAmong, rawInt] at hf
      subst hf
      exact ⟨c, rfl, z, htab.2, .refl _⟩
  · have e0 : ps = #[] := by
      rcases ok.kk _ tb.2 with e | ⟨c, P, e, _⟩
      · exact e
      · subst e; simp [codeAmong, rawInt] at hf
    subst e0
    have ok' : Oks t h' := ⟨fun b hb => g.codes (ok.tb b hb) (hg.nk b hb), cs, fun qs e => by
      rw [tb'.2] at e
      obtain rfl := tableObj_inj e
      refine .inr ⟨c', P', by simp, ⟨_, ic', tab', fun pos v z => by simp [codeAmong] at z⟩, by omega⟩⟩
    refine ⟨c', rfl, cok, ?_, Lt.of_grown hT (.inr (.inl rfl)) g ok'⟩
    have := tb'.2
    simp only [Array.empty_append] at this
    exact this
theorem coder_meth {env : Env} {pos : Pos} {firstLine : Nat} {name : Str} {p : Arguments} {scope : Scope} {body : FuncBody} {c : Addr} (hT : κ.T = t.tb lo) (hg : t.Good) (hc : env.code = .ref c) (hk : InK t s.heap c) (hq' : ∀ p, p.line = pos.line → p.col = pos.col → t.qk p = t.qk pos) (ok : Oks t s.heap) :
    wpAny κ.M A (functionCode env pos firstLine name (t.qk pos) p scope body) (fun v s' => CodeOk s'.heap v (t.qk pos) ∧ Lt κ.T NoX s s') (fun _ _ => False) s := by
  rcases ok.kk _ hk with e | ⟨c', P, e, cs0, hP⟩
  · simp at e
  simp only [List.toArray_inj, List.cons.injEq, Array.mk.injEq, Value.ref.injEq, and_true, true_and] at e
  have e' : c = c' := by simpa using e
  subst e'
  unfold functionCode
  refine code_at hc cs0 (fun ctx Q' hQ => function_mk Q' hQ) hq' (fun v ps _ _ _ z => ⟨z, .refl _⟩) fun c' P' h' tk ps tb tb' hf g cs hc' hP' cok _ _ => ⟨cok, Lt.of_grown hT (.inr (.inr hP)) g (ok.other g (Nat.ne_of_lt (Nat.lt_of_lt_of_le hg.k0 hP)) (fun b hb => .inl (Nat.ne_of_lt (Nat.lt_of_lt_of_le (hg.lt b hb) hP))) fun c2 P2 a b e2 => .inr ?_)⟩
  rw [hk] at e2
  have e3 := tableObj_inj e2
  have e4 : c = c2 := by simpa using e3
  subst e4
  have hPP : P2 = P := by
    obtain ⟨_, _, ⟨⟨o1, v1, x1, _, y1, z1⟩, _⟩, _⟩ := a.ex
    obtain ⟨_, _, ⟨⟨o2, v2, x2, _, y2, z2⟩, _⟩, _⟩ := cs0.ex
    rw [x1] at x2; cases x2; rw [y1] at y2; cases y2; rw [z1] at z2; cases z2; rfl
  rw [hPP]; exact cs
end
end Mine
end
section
open PySem PySem.W PySem.W.X PyProof.Rows PySem.Calls
set_option Elab.async false
set_option maxRecDepth 100000
set_option maxHeartbeats 1000000
namespace Mine
/-! ## functions made in a block -/
noncomputable def fnK (name qual : Str) (params : Arguments) (body : FuncBody) (scope : Scope) (cl : List (Str × Addr)) (ctv code pm doc : Value) : FuncData :=
  { name, qualname := qual, params, body, scope, globals := mainGlobals, closure := cl, closureTuple := ctv, code, builtins := builtinsNs, defaults := .none, kwdefaults := .none, annotations := none, pyModule := pm, doc }
noncomputable def fnObj (fd : FuncData) : Obj := { cls := .type "function", data := .func fd }
/-- the builtins module -/
noncomputable def Bm (κ : Cx) (h : Heap) : Prop := ∃ bm o, κ.mg "__builtins__" = some (.ref bm) ∧ bm ≠ builtinsNs ∧ h.get? bm = some o ∧ o.cls = .type "module" ∧ o.dict = some builtinsNs ∧ o.data = .plain
theorem Bm.ext {κ : Cx} {h h' : Heap} (x : Bm κ h) (k : Ext κ.T h h') : Bm κ h' := by obtain ⟨bm, o, a, b, c, d, e⟩ := x; exact ⟨bm, o, a, b, Ext.get k c (by rw [d]; exact fun z => by cases z), d, e⟩
section
variable {κ : Cx} {A : Around} {s : Shared} {E : Value → Shared → Prop} {name qual : Str} {params : Arguments} {body : FuncBody} {scope : Scope} {env : Env} {pos : Pos} {fl : Nat} {cl : List (Str × Addr)}
theorem fn_made {Q : Value → Shared → Prop} (b : Base κ s.heap) (bm : Bm κ s.heap) (hg : env.globals = mainGlobals) (hcl : closureFor scope env = pure cl)
    (hcode : ∀ s1, Lt κ.T NoX s s1 → wpAny κ.M A (functionCode env pos fl name qual params scope body) (fun v s' => CodeOk s'.heap v qual ∧ Lt κ.T NoX s1 s') (fun _ _ => False) s1)
    (hQ : ∀ f ctv code pm doc s', s'.heap.get? f = some (fnObj (fnK name qual params body scope cl ctv code pm doc)) → CodeOk s'.heap code qual → s.heap.get? f = none → Lt κ.T NoX s s' → Q (.ref f) s') :
    wpAny κ.M A (makeFunction name qual params body scope env [] [] [] pos fl) Q E s := by
  rw [makeFunction_eq]
  simp only [List.zip_nil_right, List.filterMap_nil, List.isEmpty_nil, if_true, pure_bind]
  unfold makeTail
  rw [hcl, hg]
  refine wpAny_bind (wpAny_pure ?_)
  have fin : ∀ ctv s1, Lt κ.T NoX s s1 → wpAny κ.M A (do
        let code ← functionCode env pos fl name qual params scope body
        let bl ← builtinsFor mainGlobals env.builtins
        let n ← nsGet mainGlobals "__name__"
        let doc ← match body with
          | .stmts b => (match docOf b with | some s => mkText s | none => pure .none)
          | .expr _ => pure .none
        newObj (.type "function") (.func { fnK name qual params body scope cl ctv code (n.getD .none) doc with builtins := bl })) Q E s1 := fun ctv s1 l1 => by
    refine wpAny_bind (wpAny_mono (hcode s1 l1) (fun code s2 q => ?_) fun _ _ z => z.elim)
    refine Classical.byContradiction fun nay => ?_
    obtain ⟨cok, l2⟩ := q
    have l12 := l1.trans l2
    obtain ⟨bmA, o, e1, e2, e3, e4, e5, e6⟩ := bm.ext l12.ext
    refine nay ?_
    clear nay
    have bs := b.ext l12.ext
    refine wpAny_bind (wpAny_builtinsFor bs.g e1 e2 e3 e4 e5 e6 ?_)
    refine wpAny_bind (wpAny_nsGet bs.g ?_)
    have last : ∀ doc tk, wpAny κ.M A (newObj (.type "function") (.func { fnK name qual params body scope cl ctv code ((κ.mg "__name__").getD .none) doc with builtins := builtinsNs })) Q E { s2 with toks := tk } := fun doc tk => by
      refine wpAny_newObj_type ?_ (by size_fits)
      have kp : ∀ b o, s2.heap.get? b = some o → (s2.heap.push (fnObj (fnK name qual params body scope cl ctv code ((κ.mg "__name__").getD .none) doc))).get? b = some o := fun b o e => Heap.get?_push_of_some _ e
      refine hQ s2.heap.objs.size ctv code ((κ.mg "__name__").getD .none) doc _ (Heap.get?_push_size _ rfl) (cok.ext (T := κ.T) (Ext.of_keep kp)) (Ext.back l12.ext (get_none_of_size (Nat.le_refl _))) (l12.trans (.of_keep kp))
    cases body with
    | expr e => exact wpAny_bind (wpAny_pure (last .none _))
    | stmts b =>
      cases hd : docOf b with
      | none => simp only [hd]; exact wpAny_bind (wpAny_pure (last .none _))
      | some t => simp only [hd]; exact wpAny_bind (wpAny_mkText (last _ _))
  cases cl with
  | nil =>
    simp only [List.isEmpty_nil, if_true]
    exact wpAny_bind (wpAny_pure (fin .none s (.refl _)))
  | cons q r =>
    simp only [List.isEmpty_cons, Bool.false_eq_true, if_false]
    refine wpAny_bind (wpAny_newTextTuple (fin _ _ (.of_keep fun b o e => Heap.get?_push_of_some _ e)))
/-- a lambda without defaults -/
theorem ev_lambda {n : Nat} {h : Heap} {P : Pr} {e : Expr} (b : Base κ h) (bm : Bm κ h) (hg : env.globals = mainGlobals) (hcl : closureFor scope env = pure cl) (hdef : defaultsOf params env = ([], []))
    (hcode : ∀ A s1, κ.T.ok s1.heap → wpAny κ.M A (functionCode env pos pos.line "<lambda>" (env.qual ++ "<lambda>") params scope (.expr e)) (fun v s' => CodeOk s'.heap v (env.qual ++ "<lambda>") ∧ Lt κ.T NoX s1 s') (fun _ _ => False) s1)
    (hP : ∀ V h' f ctv code pm doc, Ext κ.T h h' → h'.get? f = some (fnObj (fnK "<lambda>" (env.qual ++ "<lambda>") params (.expr e) scope cl ctv code pm doc)) → CodeOk h' code (env.qual ++ "<lambda>") → P V (.ref f) h') : Ev κ n env h (.Lambda params e scope pos) P := by
  intro A s V rm y
  refine kla_eval hdef ?_
  exact fn_made (b.ext y.ext) (bm.ext y.ext) hg hcl (fun s1 l1 => hcode A s1 (l1.ok y.ok)) fun f ctv code pm doc s' ho cok _ l => ⟨hP V s'.heap f ctv code pm doc (y.ext.trans l.ext) ho cok, l⟩
end
end Mine
end
section
open PySem PySem.W PySem.W.X PyProof.Rows PySem.Calls
set_option Elab.async false
set_option maxRecDepth 100000
set_option maxHeartbeats 1000000
namespace Mine
variable {κ : Cx} {n : Nat} {h : Heap}
/-! ## calls of functions with closures, whose body is one expression -/
noncomputable def callEnvK (fd : FuncData) (C f : Addr) : Env := { scope := fd.scope, locals := C, globals := fd.globals, cells := fd.closure, qual := fd.qualname ++ ".<locals>.", func := some f, code := fd.code, frame := some C, builtins := fd.builtins }
inductive OneE : FuncBody → Expr → Prop
  | expr (e : Expr) : OneE (.expr e) e
  | ret (e : Expr) (p : Pos) : OneE (.stmts [.Return (some e) p]) e
theorem fun_clo {f : Addr} {fd : FuncData} {e : Expr} {xs : List Str} {ds : List Da} {δc : Del} {ρc : Str → Option Value} {P : Pr} (b : Base κ h) (fa : FnAt h f fd) (hb : OneE fd.body e) (hg : fd.globals = mainGlobals) (hbl : fd.builtins = builtinsNs)
    (hco : fd.scope.isCoroutine = false) (hge : fd.scope.isGenerator = false) (hk : fd.scope.kind = .function) (hnc : fd.scope.names.all (fun x => !(x.2 == .cell)) = true)
    (hbind : ∀ vs : List Value, vs.length = ds.length → bindArgs fd ⟨vs, []⟩ = pure (xs.zip vs))
    (hnd : ∀ vs : List Value, vs.length = ds.length → ∀ x, (xs.zip vs).reverse.lookup x = (xs.zip vs).lookup x)
    (hloc : xs.all (fun x => fd.scope.names.lookup x == some .local) = true) (hfr : δc.all (fun x => !(fd.scope.names.lookup x.1 == some .local)) = true)
    (hcells : ∀ x a, fd.closure.lookup x = some a → ∃ v, h.IsCell a (some v) ∧ (ρc x = some v ∨ ρc x = none)) (hc : Holds Tr h ρc δc)
    (hbody : ∀ C h', Ext κ.T h h' → Fd κ h' (callEnvK fd C f) (xs.zip ds ++ δc) → Ev κ n (callEnvK fd C f) h' e P) :
    Fun κ (n + 1) h (.ref f) (Iss ds) P := by
  intro A s V vs rm y pa
  have fa' := fa.ext y.ext
  refine Classical.byContradiction fun nay => ?_
  obtain ⟨o, ho, hd⟩ := fa'.at_
  refine nay ?_
  clear nay
  have hlen := pa.length
  have hnc' : ∀ x ∈ fd.scope.names, x.2 ≠ .cell := fun x hx => by
    have := List.all_eq_true.mp hnc x hx
    simpa using this
  have hloc' : ∀ x ∈ xs, fd.scope.names.lookup x = some .local := fun x hx => by
    have := List.all_eq_true.mp hloc x hx
    simpa using this
  have hl : ∀ x ∈ xs.zip vs, fd.scope.names.lookup x.1 = some .local := fun x hx => hloc' _ (List.of_mem_zip hx).1
  have freshL : s.heap.get? s.heap.objs.size = none := get_none_of_size (Nat.le_refl _)
  have vL : V s.heap.objs.size := y.vis _ (.inr freshL)
  have env : ∀ (Q : Env → Shared → Prop) (E : Value → Shared → Prop), (∀ s', At κ (cutH V s'.heap) V s' → Lt κ.T NoX s s' → Fd κ (cutH V s'.heap) (callEnvK fd s.heap.objs.size f) (xs.zip ds ++ δc) → s'.heap.NoLimit → Q (callEnvK fd s.heap.objs.size f) s') →
      wpAny κ.M A.in1 (newFunctionEnv fd.scope fd.globals fd.closure (xs.zip vs) (fd.qualname ++ ".<locals>.") (some f) fd.code none fd.builtins) Q E s := fun Q E k => by
    refine wpAny_newFunctionEnv hnc' hl (fun h₁ hns hsb => ?_) hk
    have hkeep : ∀ b o, s.heap.get? b = some o → h₁.get? b = some o := fun b o e => hsb.extBut b o (Nat.ne_of_lt (Heap.lt_size e)) (Heap.get?_push_of_some _ e)
    have l : Lt κ.T NoX s ⟨h₁, s.gens, s.drawn, s.toks + (xs.zip vs).length, s.os⟩ := .of_keep hkeep
    have hx : Ext κ.T h (cutH V h₁) := cutH_of (y.ext.trans l.ext) fun a e => y.vis a (.inl e)
    have tk : 0 < s.toks + (xs.zip vs).length := Nat.lt_of_lt_of_le y.tk (Nat.le_add_right _ _)
    refine k ⟨h₁, s.gens, s.drawn, s.toks + (xs.zip vs).length, s.os⟩ (cutH_at tk (l.ok y.ok) fun a e => y.vis a (.inr (Ext.back l.ext e))) l ?_ (b.ext (y.ext.trans l.ext)).lim
    rw [show (fun x => (xs.zip vs).reverse.lookup x) = fun x => (xs.zip vs).lookup x from funext (hnd vs hlen)] at hns
    refine ⟨fun x => if fd.scope.names.lookup x = some .local then (xs.zip vs).lookup x else ρc x, ⟨b.ext hx, hk, hg, hbl, ⟨_, hns.at' fun o e => (cutH_yes (h := h₁) vL).trans e, fun x v hx2 hv => ?_⟩, fun x a e => ?_⟩, fun x d e => ?_⟩
    · have hx3 : fd.scope.names.lookup x = some .local := hx2
      rw [if_pos hx3] at hv; exact hv
    · refine Classical.byContradiction fun nay => ?_
      obtain ⟨v, hcv, hr⟩ := hcells x a e
      refine nay ?_
      clear nay
      refine ⟨some v, cell_ext hx hcv, fun u hk2 hu => ?_⟩
      have hk3 : ¬ fd.scope.names.lookup x = some .local := hk2
      rw [if_neg hk3] at hu
      rcases hr with hr | hr <;> rw [hr] at hu <;> cases hu
      rfl
    · rw [List.lookup_append] at e
      cases q : (xs.zip ds).lookup x with
      | some d' =>
        rw [q] at e; cases e
        have hz := holds_zip (xs := xs) (pa.kv (Ext.kv l.ext))
        refine Classical.byContradiction fun nay => ?_
        obtain ⟨v, p1, p2⟩ := hz x d q
        refine nay ?_
        clear nay
        have hxm : x ∈ xs := by
          have hm := mem_of_lookup q
          exact (List.of_mem_zip hm).1
        exact ⟨v, (if_pos (hloc' x hxm)).trans p1, p2.cut.at fun _ _ _ => trivial⟩
      | none =>
        rw [q] at e
        have e' : δc.lookup x = some d := e
        refine Classical.byContradiction fun nay => ?_
        obtain ⟨v, p1, p2⟩ := hc x d e'
        refine nay ?_
        clear nay
        have hn : ¬ fd.scope.names.lookup x = some .local := by
          have := List.all_eq_true.mp hfr _ (mem_of_lookup e')
          simpa using this
        exact ⟨v, (if_neg hn).trans p1, p2.kv (Ext.kv hx)⟩
  refine wpAny_call ?_
  have body : ∀ s', At κ (cutH V s'.heap) V s' → Lt κ.T NoX s s' → Fd κ (cutH V s'.heap) (callEnvK fd s.heap.objs.size f) (xs.zip ds ++ δc) →
      wpAny κ.M (A.deeper (callEnvK fd s.heap.objs.size f)) (eval e (callEnvK fd s.heap.objs.size f)) (fun v s'' => P V v s''.heap ∧ Lt κ.T NoX s s'') (fun _ _ => False) s' := fun s' y' l F =>
    (hbody _ _ (cutH_of (y.ext.trans l.ext) fun a e => y.vis a (.inl e)) F).go rm.deeper y' fun v s'' p l' _ => ⟨p, l.trans l'⟩
  generalize hfb : fd.body = fb at hb
  cases hb with
  | expr =>
    refine kla_callFunE rm.depth ho hd hco hge hfb fa'.code.toRec ?_
    rw [hbind vs hlen]
    refine wpAny_pure (env _ _ fun s' y' l F lim => ⟨lim, kla_codeExpr (wpAny_mono (body s' y' l F) (fun v s'' q => q) fun _ _ z => z.elim)⟩)
  | ret _ p =>
    refine codeAny_call_function rm.depth ho hd hco hge hfb fa'.code.toRec ?_
    rw [hbind vs hlen]
    refine wpAny_pure (env _ _ fun s' y' l F lim => ⟨lim, codeAny_func (wpAny_execs_cons (wpAny_Return_some (wpAny_mono (body s' y' l F) (fun v s'' q => q) fun _ _ z => z.elim)))⟩)
end Mine
end
section
open PySem PySem.W PySem.W.X PyProof.Rows PySem.Calls
set_option Elab.async false
set_option maxRecDepth 100000
set_option maxHeartbeats 1000000
namespace Mine
/-! ## a class body's namespace -/
/-- a dict object, its names as m says -/
structure Dct (h : Heap) (a : Addr) (m : Str → Option Value) : Prop where
  ob : ∃ es ep, h.get? a = some { cls := .type "dict", data := .dict es ep }
  ns : h.Ns1 a m
theorem Dct.mod {m m' : Str → Option Value} {h h' : Heap} {a : Addr} (x : Dct h a m) (f : Obj → Obj) (hf : ∀ es ep, ∃ es' ep', f { cls := .type "dict", data := .dict es ep } = { cls := .type "dict", data := .dict es' ep' })
    (e : h' = h.update a f) (n : h'.Ns1 a m') : Dct h' a m' := by
  refine Classical.byContradiction fun nay => ?_
  obtain ⟨es, ep, ho⟩ := x.ob
  obtain ⟨es', ep', he⟩ := hf es ep
  refine nay ?_
  clear nay
  exact ⟨⟨es', ep', by rw [e, Heap.get?_update_self _ ho (by rw [he]; rfl), he]⟩, n⟩
section
variable {M : Model} {A : Around} {E : Value → Shared → Prop} {s : Shared}
theorem wpa_nsSetD {a : Addr} {m : Str → Option Value} {name : Str} {v : Value} {Q : Unit → Shared → Prop} (hn : Dct s.heap a m)
    (hQ : ∀ h', Dct h' a (fun x => if x = name then some v else m x) → Heap.SameBut a s.heap h' → Q () { s with heap := h', toks := s.toks + 1 }) :
    wpAny M A (nsSet a name v) Q E s := by
  have ⟨es, ep, ho0⟩ := hn.ob
  intro Γ p hΓ
  have z := wpAny_nsSet1 (M := M) (A := A) (E := E) (s := s) (name := name) (v := v) (Q := fun _ s' => s'.heap.Ns1 a (fun x => if x = name then some v else m x) ∧ Heap.SameBut a s.heap s'.heap) hn.ns (fun h' a b => ⟨a, b⟩) Γ p hΓ
  refine Classical.byContradiction fun nay => ?_
  obtain ⟨o, es2, ep2, ho, hd, hk, hu, hm⟩ := hn.ns
  rw [ho0] at ho; cases ho
  obtain ⟨rfl, rfl⟩ : es = es2 ∧ ep = ep2 := by cases hd; exact ⟨rfl, rfl⟩
  refine nay ?_
  clear nay
  have hany : es.any (·.refKey) = false := by
    rw [Array.any_eq_false']; intro e he; obtain ⟨n, t, h⟩ := hk e he; simp [DictEntry.refKey, h]
  simp only [nsSet, strHash, Sem.wp_bind', Sem.wp_cmd_ask, Sem.wp_pure', Sem.wp_cmd_mkText] at z ⊢
  rw [Sem.wp_loadPart_of M Γ _ p { s with toks := s.toks + 1 } (o := { cls := .type "dict", data := .dict es ep }) _ ho0] at z ⊢
  simp only [aRefKeyMayBeTheName_eq, aRefKeyMayBeTheNameByArray, hany, Bool.and_false, Bool.false_eq_true, if_false, Sem.wp_cmd_updatePart] at z ⊢
  refine ⟨z.1, hQ _ (Dct.mod hn _ (fun es' ep' => ?_) rfl z.2.1) z.2.2⟩
  simp only [Obj.putName_eq, Obj.putNameByArray]
  cases hi : es'.findIdx? (·.key.isStr name) with
  | some i => exact ⟨_, _, rfl⟩
  | none => exact ⟨_, _, rfl⟩
end
section
variable {κ : Cx} {A : Around} {E : Value → Shared → Prop} {s s₀ : Shared} {N : Addr} {ms : List (Str × Value)} {n : Nat} {cenv : Env}
theorem Plainv.but {h h' : Heap} {v : Value} (p : Plainv h v) (m : ∃ es ep, h.get? N = some { cls := .type "dict", data := .dict es ep }) (k : ∀ b o, b ≠ N → h.get? b = some o → h'.get? b = some o) : Plainv h' v := by
  rcases p with p | p | p | ⟨b, o, T, e, ho, hc, r⟩
  · exact .inl p
  · exact .inr (.inl p)
  · exact .inr (.inr (.inl p))
  · refine .inr (.inr (.inr ⟨b, o, T, e, k b o (fun q => ?_) ho, hc, r⟩))
    refine Classical.byContradiction fun nay => ?_
    obtain ⟨es, ep, hN⟩ := m
    refine nay ?_
    clear nay
    rw [q, hN] at ho; cases ho
    have hc' : T = "dict" := by cases hc; rfl
    rw [hc'] at r
    revert r; decide
theorem Plainv.ext {T : Tb} {h h' : Heap} {v : Value} (p : Plainv h v) (k : Ext T h h') : Plainv h' v := by
  rcases p with p | p | p | ⟨b, o, T, e, ho, hc, r⟩
  · exact .inl p
  · exact .inr (.inl p)
  · exact .inr (.inr (.inl p))
  · exact .inr (.inr (.inr ⟨b, o, T, e, Ext.get k ho (by rw [hc]; exact fun z => by cases z), hc, r⟩))
theorem Dct.ext {T : Tb} {h h' : Heap} {a : Addr} {m : Str → Option Value} (x : Dct h a m) (k : Ext T h h') : Dct h' a m :=
  ⟨by obtain ⟨es, ep, e⟩ := x.ob; exact ⟨es, ep, Ext.get k e fun z => by cases z⟩, x.ns.at fun o e => by
    refine Classical.byContradiction fun nay => ?_
    obtain ⟨o', es, ep, e', hd, _⟩ := x.ns
    refine nay ?_
    clear nay
    rw [e] at e'; cases e'
    exact Ext.get_data k e fun vs q => by rw [hd] at q; cases q⟩
/-- within a class body: s₀ before it, N its namespace, ms what it holds -/
structure Cb (κ : Cx) (s₀ : Shared) (N : Addr) (ms : List (Str × Value)) (s : Shared) : Prop where
  l : Lt κ.T NoX s₀ s
  new : s₀.heap.get? N = none
  d : Dct s.heap N (fun x => ms.lookup x)
  pl : ∀ p ∈ ms, Plainv s.heap p.2
  tk : 0 < s.toks
  ok : κ.T.ok s₀.heap
theorem Cb.at (F : Cb κ s₀ N ms s) : At κ s₀.heap Tr s := ⟨F.l.ext, F.tk, F.l.ok F.ok, fun _ _ => trivial⟩
theorem Cb.on {s' : Shared} (F : Cb κ s₀ N ms s) (l : Lt κ.T NoX s s') (t : 0 < s'.toks) : Cb κ s₀ N ms s' := ⟨F.l.trans l, F.new, F.d.ext l.ext, fun p hp => (F.pl p hp).ext l.ext, t, F.ok⟩
theorem Cb.store {x : Str} {v : Value} {Q : Unit → Shared → Prop} (F : Cb κ s₀ N ms s) (hN : cenv.locals = N) (hc : cenv.scope.kind = .class) (hk : (cenv.kindOf x == some .local || (cenv.kindOf x == none && compilersOwnNames.contains x)) = true) (hv : Plainv s.heap v)
    (k : ∀ s', Cb κ s₀ N ((x, v) :: ms) s' → Lt κ.T (fun b => b = N) s s' → Heap.SameBut N s.heap s'.heap → Calm s.heap s'.heap → Q () s') : wpAny κ.M A (storeName cenv x v) Q E s := by
  have e1 : storeName cenv x v = localSet cenv x v := by
    unfold storeName Env.blockKind
    rw [hc]
    cases q : cenv.kindOf x with
    | none =>
      rw [q] at hk
      have hk' : compilersOwnNames.contains x = true := by simpa using hk
      simp [ScopeKind.isAnnotationScope]
      intro z; exact absurd (by simpa using hk') z
    | some z =>
      rw [q] at hk
      cases z <;> simp at hk
      simp [ScopeKind.isAnnotationScope]
  rw [e1]
  unfold localSet
  refine Classical.byContradiction fun nay => ?_
  obtain ⟨es, ep, ho⟩ := F.d.ob
  refine nay ?_
  clear nay
  refine wpAny_bind (wpAny_load (by rw [hN]; exact ho) ?_)
  rw [if_pos (show (({ cls := .type "dict", data := .dict es ep } : Obj).cls == Value.type "dict") = true from rfl), hN]
  refine wpa_nsSetD F.d fun h' d' hs => ?_
  have cm := calm_ns F.d.ns.ns hs
  have lx : Lt κ.T (fun b => b = N) s ⟨h', s.gens, s.drawn, s.toks + 1, s.os⟩ := .of_ext (.sameBut hs rfl) cm
  refine k _ ⟨F.l.goC F.new hs cm, F.new, ?_, ?_, Nat.succ_pos _, F.ok⟩ lx hs cm
  · rw [show (fun y => ((x, v) :: ms).lookup y) = fun y => if y = x then some v else ms.lookup y from funext fun y => by
      rw [List.lookup_cons]
      by_cases hy : y = x
      · rw [if_pos hy, hy]; simp
      · rw [if_neg hy, show (y == x) = false by simpa using hy]]
    exact d'
  · intro p hp
    rcases List.mem_cons.mp hp with rfl | hp
    · exact hv.but ⟨es, ep, ho⟩ fun b o hb e => (hs.2 b hb).trans e
    · exact (F.pl p hp).but ⟨es, ep, ho⟩ fun b o hb e => (hs.2 b hb).trans e
theorem cb_assign {x : Str} {p pos : Pos} {e : Expr} {P : Pr} {rest : List Stmt} {Q : Flow → Shared → Prop} (F : Cb κ s₀ N ms s) (rm : Rm n A) (hN : cenv.locals = N) (hc : cenv.scope.kind = .class) (hk : (cenv.kindOf x == some .local || (cenv.kindOf x == none && compilersOwnNames.contains x)) = true)
    (a : Ev κ n cenv s₀.heap e P) (hP : ∀ v h', P Tr v h' → Plainv h' v) (hsw : swapsWith e (some (.Name x p)) pos.line cenv = pure false)
    (k : ∀ v (s1 s2 : Shared), P Tr v s1.heap → Lt κ.T NoX s s1 → Heap.SameBut N s1.heap s2.heap → Cb κ s₀ N ((x, v) :: ms) s2 → Lt κ.T (fun b => b = N) s s2 → wpAny κ.M A (execs rest cenv) Q E s2) : wpAny κ.M A (execs (.Assign [.Name x p] e pos :: rest) cenv) Q E s :=
  wpAny_execs_cons (wpAny_Assign_Name (a.go rm F.at fun v s1 pv l1 y1 => (F.on l1 y1.tk).store hN hc hk (hP v _ pv) fun s2 F2 l2 hs _ => k v s1 s2 pv l1 hs F2 (l1.toB.trans l2)) hsw)
theorem cb_def {name qual : Str} {params : Arguments} {body : List Stmt} {scope : Scope} {pos : Pos} {cl : List (Str × Addr)} {rest : List Stmt} {Q : Flow → Shared → Prop} (F : Cb κ s₀ N ms s) (hN : cenv.locals = N) (hc : cenv.scope.kind = .class) (hk : (cenv.kindOf name == some .local || (cenv.kindOf name == none && compilersOwnNames.contains name)) = true)
    (b : Base κ s₀.heap) (bm : Bm κ s₀.heap) (hg : cenv.globals = mainGlobals) (hcl : closureFor scope cenv = pure cl) (hd0 : params.defaults = []) (hk0 : params.kw_defaults = []) (ha : annTrees params none cenv = []) (hq : qualnameIn cenv name name = qual)
    (hcode : ∀ s1, Lt κ.T NoX s s1 → wpAny κ.M A (functionCode cenv pos pos.line name qual params scope (.stmts body)) (fun v s' => CodeOk s'.heap v qual ∧ Lt κ.T NoX s1 s') (fun _ _ => False) s1)
    (k : ∀ f ctv code pm doc s2, s2.heap.get? f = some (fnObj (fnK name qual params (.stmts body) scope cl ctv code pm doc)) → CodeOk s2.heap code qual → f ≠ N → Cb κ s₀ N ((name, .ref f) :: ms) s2 → Lt κ.T (fun b => b = N) s s2 → wpAny κ.M A (execs rest cenv) Q E s2) :
    wpAny κ.M A (execs (.FunctionDef name params body [] none [] scope none name pos :: rest) cenv) Q E s := by
  refine wpAny_execs_cons (nestDef_K hd0 hk0 ha ?_)
  rw [hq]
  refine wpAny_mono (wpAny_toks_of F.tk (fn_made (Q := fun v s1 => ∃ f ctv code pm doc, v = .ref f ∧ s1.heap.get? f = some (fnObj (fnK name qual params (.stmts body) scope cl ctv code pm doc)) ∧ CodeOk s1.heap code qual ∧ s.heap.get? f = none ∧ Lt κ.T NoX s s1) (E := fun _ _ => False) (b.ext F.l.ext) (bm.ext F.l.ext) hg hcl hcode fun f ctv code pm doc s1 ho cok hf l1 => ⟨f, ctv, code, pm, doc, rfl, ho, cok, hf, l1⟩)) (fun v s1 q => ?_) fun _ _ z => z.2.elim
  refine Classical.byContradiction fun nay => ?_
  obtain ⟨tk, f, ctv, code, pm, doc, rfl, ho, cok, hf, l1⟩ := q
  refine nay ?_
  clear nay
  have nf : f ≠ N := fun q => by
    refine Classical.byContradiction fun nay => ?_
    obtain ⟨es, ep, hN⟩ := F.d.ob
    refine nay ?_
    clear nay
    rw [q, hN] at hf; cases hf
  refine (F.on l1 tk).store hN hc hk (.inr (.inr (.inr ⟨f, _, "function", rfl, ho, rfl, .inr (.inr (.inl rfl))⟩))) fun s2 F2 l2 hs cm => ?_
  exact k f ctv code pm doc s2 ((hs.2 f nf).trans ho) (codeOk_calm cm cok) nf F2 (l1.toB.trans l2)
end
end Mine
end
section
open PySem PySem.W PySem.W.X PyProof.Rows PySem.Calls
set_option Elab.async false
set_option maxRecDepth 100000
set_option maxHeartbeats 1000000
namespace Mine
theorem st_cf {M : Model} {A : Around} {E : Value → Shared → Prop} {s : Shared} {a b} {Q} (h : Hold (wpAny M A (closureFor a b) Q E s)) : wpAny M A (closureFor a b) Q E s := h
theorem st_ef {M : Model} {A : Around} {E : Value → Shared → Prop} {s : Shared} {a} {Q} (h : Hold (wpAny M A (enterFrame a) Q E s)) : wpAny M A (enterFrame a) Q E s := h
theorem st_bf {M : Model} {A : Around} {E : Value → Shared → Prop} {s : Shared} {a b} {Q} (h : Hold (wpAny M A (builtinsFor a b) Q E s)) : wpAny M A (builtinsFor a b) Q E s := h
theorem st_nbf {M : Model} {A : Around} {E : Value → Shared → Prop} {s : Shared} {a b c d} {Q} (h : Hold (wpAny M A (newBodyFrame a b c d) Q E s)) : wpAny M A (newBodyFrame a b c d) Q E s := h
theorem st_so {M : Model} {A : Around} {E : Value → Shared → Prop} {s : Shared} {a b} {Q} (h : Hold (wpAny M A (specialOf a b) Q E s)) : wpAny M A (specialOf a b) Q E s := h
theorem st_or {M : Model} {A : Around} {E : Value → Shared → Prop} {s : Shared} {t : Sem Unit} {b} {Q} (h : Hold (wpAny M A (t.onRaise b) Q E s)) : wpAny M A (t.onRaise b) Q E s := h
theorem st_run {M : Model} {A : Around} {E : Value → Shared → Prop} {s : Shared} {a b} {Q} (h : Hold (wpAny M A (run a b) Q E s)) : wpAny M A (run a b) Q E s := h
theorem st_call' {M : Model} {A : Around} {E : Value → Shared → Prop} {s : Shared} {a b c} {Q} (h : Hold (wpAny M A (call a b c) Q E s)) : wpAny M A (call a b c) Q E s := h
theorem st_ntm {M : Model} {A : Around} {E : Value → Shared → Prop} {s : Shared} {a b} {Q} (h : Hold (wpAny M A (notTheModulesDict a b) Q E s)) : wpAny M A (notTheModulesDict a b) Q E s := h
noncomputable def cenvK (scope : Scope) (q : Str) (cl : List (Str × Addr)) (N c F : Addr) : Env := { scope, locals := N, globals := mainGlobals, qual := q ++ ".", code := .ref c, frame := some F, builtins := builtinsNs, cells := cl }
/-- what type_new asks of the names -/
structure KNs (ms : List (Str × Value)) (h : Heap) (q : Str) : Prop where
  slots : ∃ sl to n, ms.lookup ("__slots__" : Str) = some (.ref sl) ∧ h.get? sl = some (seqObj "list" #[.str "obj" to] n)
  md : (ms.lookup ("__module__" : Str)).isSome = true
  qn : ∃ tq, ms.lookup ("__qualname__" : Str) = some (.str q tq)
  nones : (["__del__", "__doc__", "__new__", "__init_subclass__", "__class_getitem__", "__classcell__", "__classdictcell__", "obj"] : List Str).all (fun x => (ms.lookup x).isNone) = true
  eq : (ms.lookup ("__eq__" : Str)).isSome = true
  hash : (ms.lookup ("__hash__" : Str)).isSome = true
  len : ms.length ≤ 60
theorem lookup_mem' {ms : List (Str × Value)} {x : Str} (e : ms.lookup x ≠ none) : x ∈ ms.map (·.1) := by
  cases q : ms.lookup x with
  | none => exact absurd q e
  | some v => exact List.mem_map_of_mem (f := (·.1)) (mem_of_lookup q)
theorem type_new_K {prog : Program} {w : World} {A : Around} {E : Value → Shared → Prop} {Q : PySem.Fin → Shared → Prop} {h : Heap} {g : Array GenState} {d : Drawn} {t : Nat} {os : OsState} {bT N : Addr} {tk : Tok} {ms : List (Str × Value)}
    (hb : h.get? bT = some (seqObj "tuple" #[.type "object"] 0)) (dc : Dct h N (fun x => ms.lookup x)) (kn : KNs ms h nameK) (pl : ∀ p ∈ ms, Plainv h p.2) (hne : (N == sysModules) = false) (hpk : NoPack h)
    (hQ : ∀ h' a N' D tD tk' tq m', h'.get? a = some (co { name := "K", bases := [.type "object"], mro := [.ref a, .type "object"], ns := N', qualname := nameK, hasDict := false, slotNames := ["obj"] } #[some (.ref bT), none, some (.str "K" tk), some (.str nameK tq), some (.builtin "object.__new__"), some (.bool false)]) → h'.Ns1 N' m' → h.get? N' = none →
      (∀ x : Str, x ≠ "__qualname__" → x ≠ "obj" → x ≠ "__doc__" → m' x = ms.lookup x) → m' "obj" = some (.ref D) → h'.get? D = some { cls := .type "member_descriptor", data := .fields #[.str "obj" tD, .ref a, .builtin "proto.slot", .builtin "proto.slot#set", rawInt 0] } →
      (∀ b o, h.get? b = some o → h'.get? b = some o) → Q (.done (.ret (.ref a))) ⟨h', g, d, tk', os⟩)
    : wpAny (model prog w) A (Builtin.«type.__new__» ⟨[.type "type", .str "K" tk, .ref bT, .ref N], []⟩) Q E ⟨h, g, d, t, os⟩ := by
  refine Classical.byContradiction fun nay => ?_
  obtain ⟨es, ep, hn⟩ := dc.ob
  obtain ⟨sl, to, n, hs1, hs2⟩ := kn.slots
  obtain ⟨tq, hq⟩ := kn.qn
  refine nay ?_
  clear nay
  have nn := fun x hx => List.all_eq_true.mp kn.nones x hx
  have none_of : ∀ x : Str, x ∈ (["__del__", "__doc__", "__new__", "__init_subclass__", "__class_getitem__", "__classcell__", "__classdictcell__", "obj"] : List Str) → ms.lookup x = none := fun x hx => by
    have := nn x hx
    simpa using this
  have any := fun x => ns1_any dc.ns hn rfl x
  have hsl : ∃ e, es.find? (fun x => x.key.isStr "__slots__") = some e ∧ e.val = .ref sl := by
    refine Classical.byContradiction fun nay => ?_
    obtain ⟨o', es', ep', ho', hd', _, _, hm⟩ := dc.ns
    refine nay ?_
    clear nay
    rw [hn] at ho'; cases ho'; cases hd'
    have e1 : nsFind es "__slots__" = some (.ref sl) := (hm "__slots__").trans hs1
    simpa [nsFind, findBy] using e1
  refine Classical.byContradiction fun nay => ?_
  obtain ⟨e, he, hv⟩ := hsl
  obtain ⟨ve, hve⟩ := Option.isSome_iff_exists.mp kn.eq
  obtain ⟨vh, hvh⟩ := Option.isSome_iff_exists.mp kn.hash
  refine nay ?_
  clear nay
  have hL : ∀ x, ms.lookup x ≠ none → x ∈ ms.map (·.1) := fun x hx => lookup_mem' hx
  have hsz : es.size ≤ 64 := by
    have := ns1_small dc.ns (ms.map (·.1)) hL hn rfl
    rw [List.length_map] at this
    have := kn.len
    omega
  have hes : es.isEmpty = false := by
    cases q : es.isEmpty with
    | false => rfl
    | true =>
      have e0 : es = #[] := by simpa using q
      rw [e0] at he; simp at he
  refine type_new (m := fun x => ms.lookup x) hb hn dc.ns hne hes he hv hs2 ?_ hsz ?_ ?_ hq (none_of _ (by simp)) (none_of _ (by simp)) (none_of _ (by simp)) (none_of _ (by simp)) (none_of _ (by simp)) (none_of _ (by simp)) (none_of _ (by simp)) hve hvh (fun x v e => pl _ (mem_of_lookup e)) hpk (ms.map (·.1)) hL ?_ rfl ?_
  · rw [any, none_of _ (by simp)]; rfl
  · rw [any]; exact kn.md
  · rw [any, none_of _ (by simp)]; rfl
  · rw [List.length_map]; have := kn.len; omega
  · intro h' a N' D tD tk' m' x1 x2 x0 x3 x4 x5 x6
    exact hQ h' a N' D tD tk' tq m' x1 x2 x0 x3 x4 x5 x6
theorem cb_head {κ : Cx} {A : Around} {E : Value → Shared → Prop} {s s₀ : Shared} {N : Addr} {cenv : Env} {q : Str} {fl : Nat} {nm : Str} {tn : Tok} {Q : Unit → Shared → Prop} (F : Cb κ s₀ N [] s) (hN : cenv.locals = N) (hc : cenv.scope.kind = .class) (b : Base κ s₀.heap) (hg : cenv.globals = mainGlobals)
    (hm : κ.mg "__name__" = some (.str nm tn)) (h1 : cenv.kindOf "__name__" = none) (h2 : cenv.kindOf "__module__" = some .local ∨ cenv.kindOf "__module__" = none) (h3 : cenv.kindOf "__qualname__" = none) (h4 : cenv.kindOf "__firstlineno__" = none)
    (k : ∀ tq ti s', Cb κ s₀ N [("__firstlineno__", .int fl ti), ("__qualname__", .str q tq), ("__module__", .str nm tn)] s' → Lt κ.T (fun b => b = N) s s' → Q () s') :
    wpAny κ.M A (do storeName cenv "__module__" (← loadName cenv "__name__")
                    storeName cenv "__qualname__" (← mkText q)
                    storeName cenv "__firstlineno__" (← mkInt fl)
                    pure ()) Q E s := by
  have ld : ∀ (Q : Value → Shared → Prop), Q (.str nm tn) s → wpAny κ.M A (loadName cenv "__name__") Q E s := fun Q hq => by
    unfold loadName Env.blockKind
    rw [hc, h1]
    simp only [ScopeKind.isAnnotationScope, Bool.false_and, Bool.false_eq_true, if_false]
    have e : compilersOwnNames.contains "__name__" = true := by decide
    simp only [e, Bool.not_true, Bool.false_eq_true, if_false]
    refine Classical.byContradiction fun nay => ?_
    obtain ⟨es, ep, ho⟩ := F.d.ob
    refine nay ?_
    clear nay
    unfold localGet
    refine wpAny_bind (wpAny_bind (wpAny_load (by rw [hN]; exact ho) ?_))
    rw [if_pos (show (({ cls := .type "dict", data := .dict es ep } : Obj).cls == Value.type "dict") = true from rfl), hN]
    refine wpAny_nsGet F.d.ns.ns ?_
    show wpAny κ.M A (loadGlobal cenv "__name__") Q E s
    exact loadGlobal_global (by rw [hg]; exact (b.ext F.l.ext).g) hm hq
  refine wpAny_bind (ld _ (wpAny_bind (F.store hN hc (by rcases h2 with e | e <;> rw [e] <;> rfl) (.inr (.inr (.inl ⟨_, _, rfl⟩))) fun s1 F1 l1 _ _ => ?_)))
  refine wpAny_bind (wpAny_mkText (wpAny_bind ((F1.on (s' := { s1 with toks := s1.toks + 1 }) .toks (Nat.succ_pos _)).store hN hc (by rw [h3]; rfl) (.inr (.inr (.inl ⟨_, _, rfl⟩))) fun s2 F2 l2 _ _ => ?_)))
  refine wpAny_bind (wpAny_mkInt (wpAny_bind ((F2.on (s' := { s2 with toks := s2.toks + 1 }) .toks (Nat.succ_pos _)).store hN hc (by rw [h4]; rfl) (.inr (.inl ⟨_, _, rfl⟩)) fun s3 F3 l3 _ _ => wpAny_pure ?_)))
  exact k _ _ s3 F3 (l1.trans ((Lt.toks.trans l2).trans (Lt.toks.trans l3)))
theorem InK.extN {κ : Cx} {t : Tx} {lo : Prop} {h h' : Heap} {c N : Addr} (hT : κ.T = t.tb lo) (o' : Oks t h') (x : InK t h c) (hN : ∃ es ep, h.get? N = some { cls := .type "dict", data := .dict es ep }) (k : ExtB κ.T (fun b => b = N) h h') : InK t h' c := by
  have hp : ¬ t.Pk = N := fun q => by
    refine Classical.byContradiction fun nay => ?_
    obtain ⟨es, ep, e⟩ := hN
    refine nay ?_
    clear nay
    have x' : h.get? t.Pk = _ := x
    rw [q, e] at x'; cases x'
  rcases k _ _ hp x with e | ⟨_, ps, more, e1, e2⟩
  · exact e
  · have e1' := tableObj_inj (congrArg some e1)
    subst e1'
    rcases o'.kk _ e2 with z | ⟨c', P, z, _⟩
    · exfalso
      have := congrArg Array.size z
      simp at this
    · have hs := congrArg Array.size z
      simp only [Array.size_append, List.size_toArray, List.length_cons, List.length_nil] at hs
      have hm : more = #[] := Array.eq_empty_of_size_eq_zero (by omega)
      rw [hm, Array.append_empty] at e2
      exact e2
theorem prepT {prog : Program} {w : World} {A : Around} {E : Value → Shared → Prop} {Q : Option Value → Shared → Prop} {h : Heap} {g : Array GenState} {d : Drawn} {t : Nat} {os : OsState} (ht : 0 < t)
    (hq : ∀ tk, 0 < tk → Q (some (.ref h.objs.size)) ⟨h.push { cls := .type "builtin_function_or_method", data := .fields #[.builtin "type.__prepare__", .type "type"] }, g, d, tk, os⟩) :
    wpAny (model prog w) A (getAttr? (.type "type") "__prepare__") Q E ⟨h, g, d, t, os⟩ := by
  refine wpAny_mono (wpAny_toks_of (n := 1) ht (prep (Q := fun r s' => ∃ tk, r = some (.ref h.objs.size) ∧ s' = ⟨h.push { cls := .type "builtin_function_or_method", data := .fields #[.builtin "type.__prepare__", .type "type"] }, g, d, tk, os⟩) (E := fun _ _ => False) fun tk => ⟨tk, rfl, rfl⟩)) (fun r s' z => ?_) fun _ _ z => z.2.elim
  refine Classical.byContradiction fun nay => ?_
  obtain ⟨z1, tk, rfl, rfl⟩ := z
  refine nay ?_
  clear nay
  exact hq tk z1
end Mine
end
section
open PySem PySem.W PySem.W.X PyProof.Rows PySem.Calls
set_option Elab.async false
set_option maxRecDepth 100000
set_option maxHeartbeats 1000000
namespace Mine
/-- what class K's object holds beside its slots -/
structure KSl where
  bT : Addr
  tk : Tok
  tq : Tok
noncomputable def kObj (a N : Addr) (k : KSl) : Obj := co { name := "K", bases := [.type "object"], mro := [.ref a, .type "object"], ns := N, qualname := nameK, hasDict := false, slotNames := ["obj"] } #[some (.ref k.bT), none, some (.str "K" k.tk), some (.str nameK k.tq), some (.builtin "object.__new__"), some (.bool false)]
theorem build_K {κ : Cx} {t : Tx} {lo : Prop} {A : Around} {n : Nat} {s : Shared} {env : Env} {body : List Stmt} {scope : Scope} {fl : Nat} {cl : List (Str × Addr)} {nm : Str} {tn : Tok} {Q : Value → Shared → Prop} {Rk : List (Str × Value) → Shared → Prop} (b : Base κ s.heap) (bm : Bm κ s.heap) (hpk : NoPack s.heap) (hT : κ.T = t.tb lo) (hgd : t.Good) (hn0 : t.n0 ≤ s.heap.objs.size) (hok : Oks t s.heap) (htk : 0 < s.toks) (hsm : sysModules < s.heap.objs.size)
    (hc : env.code = .ref t.ck) (hg : env.globals = mainGlobals) (hcl : closureFor scope env = pure cl) (hm : κ.mg "__name__" = some (.str nm tn)) (rm : Rm (n + 1) A)
    (hkc : (scope.names.lookup ("__class__" : Str) == some NameKind.cell) = false) (hkd : (scope.names.lookup ("__classdict__" : Str) == some NameKind.cell) = false) (hsc : scope.kind = .class)
    (h1 : scope.names.lookup ("__name__" : Str) = none) (h2 : scope.names.lookup ("__module__" : Str) = some .local ∨ scope.names.lookup ("__module__" : Str) = none) (h3 : scope.names.lookup ("__qualname__" : Str) = none) (h4 : scope.names.lookup ("__firstlineno__" : Str) = none) (h5 : scope.names.lookup ("__static_attributes__" : Str) = none)
    (hbody : ∀ N c F s1 tq ti, Cb κ s N [("__firstlineno__", .int fl ti), ("__qualname__", .str nameK tq), ("__module__", .str nm tn)] s1 → InK t s1.heap c →
      codeAny κ.M A (.body body (cenvK scope nameK cl N c F)) (fun r s2 => r = .ok .next ∧ Lt κ.T (fun b => b = N) s1 s2 ∧ ∃ ms, Cb κ s N ms s2 ∧ KNs ms s2.heap nameK ∧ ms.length ≤ 50 ∧ Rk ms s2) s1)
    (hQ : ∀ ms N s6 a N' D tD sl m' s', Rk ms s6 → (∃ es ep, s6.heap.get? N = some { cls := .type "dict", data := .dict es ep }) → (∀ b o, b ≠ N → s6.heap.get? b = some o → s'.heap.get? b = some o) → s'.heap.get? a = some (kObj a N' sl) → s'.heap.Ns1 N' m' → s.heap.get? N' = none →
      (∀ x : Str, x ≠ "__qualname__" → x ≠ "obj" → x ≠ "__doc__" → x ≠ "__static_attributes__" → m' x = ms.lookup x) → m' "obj" = some (.ref D) → s'.heap.get? D = some { cls := .type "member_descriptor", data := .fields #[.str "obj" tD, .ref a, .builtin "proto.slot", .builtin "proto.slot#set", rawInt 0] } →
      Lt κ.T NoX s s' → Q (.ref a) s') :
    wpAny κ.M A (buildClass "K" nameK [.type "object"] [] body scope ["obj"] fl env t.kpos none) Q (fun _ _ => False) s := by
  obtain ⟨h, g, d, tk, os⟩ := s
  unfold buildClass
  (first | with_reducible (first | refine wpa_bindK ?_ | refine kp_out ?_ | refine wpAny_pure ?_ | refine forQ_yield ?_ | refine forQ_done ?_ | refine wpa_for_nil ?_ | refine wpa_for_cons ?_ | refine wpAny_rule ?_ | refine wpAny_holding ?_ | refine wpAny_of_eq sub_tuple ?_ | refine wpAny_of_eq sub_dict ?_ | refine wpAny_of_eq sub_type ?_ | refine wpAny_of_eq sub_object ?_ | refine wpAny_of_eq typeOf_object ?_ | refine wpAny_of_eq look_dict_iter ?_ | refine wpAny_of_eq look_type_mro ?_ | refine wpAny_of_eq mro_object ?_ | refine st_seq ?_ | refine st_ext ?_ | refine st_trn ?_ | refine st_read ?_ | refine st_dict ?_ | refine st_nsget ?_ | refine st_newobj ?_ | refine st_nsset ?_ | refine st_nsdel ?_ | refine st_alloc ?_ | refine st_slot ?_ | refine st_ucls ?_ | refine st_hook ?_ | refine st_lin ?_ | refine st_rm ?_ | refine st_mb ?_ | refine st_inst ?_ | refine st_gw ?_ | refine st_note ?_ | refine st_try ?_) | refine wpAny_ite_false rfl ?_ | refine wpAny_ite_true rfl ?_ | wp_delta | wp_step)
  refine wpAny_newTuple ?_
  dsimp -zeta only
  repeat (first | (with_reducible (first | refine st_ga ?_ | refine st_cc ?_ | refine st_cf ?_ | refine st_ef ?_ | refine st_bf ?_ | refine st_nbf ?_ | refine st_so ?_ | refine st_or ?_ | refine st_run ?_ | refine st_call' ?_ | refine st_ntm ?_)) | (first | with_reducible (first | refine wpa_bindK ?_ | refine kp_out ?_ | refine wpAny_pure ?_ | refine forQ_yield ?_ | refine forQ_done ?_ | refine wpa_for_nil ?_ | refine wpa_for_cons ?_ | refine wpAny_rule ?_ | refine wpAny_holding ?_ | refine wpAny_of_eq sub_tuple ?_ | refine wpAny_of_eq sub_dict ?_ | refine wpAny_of_eq sub_type ?_ | refine wpAny_of_eq sub_object ?_ | refine wpAny_of_eq typeOf_object ?_ | refine wpAny_of_eq look_dict_iter ?_ | refine wpAny_of_eq look_type_mro ?_ | refine wpAny_of_eq mro_object ?_ | refine st_seq ?_ | refine st_ext ?_ | refine st_trn ?_ | refine st_read ?_ | refine st_dict ?_ | refine st_nsget ?_ | refine st_newobj ?_ | refine st_nsset ?_ | refine st_nsdel ?_ | refine st_alloc ?_ | refine st_slot ?_ | refine st_ucls ?_ | refine st_hook ?_ | refine st_lin ?_ | refine st_rm ?_ | refine st_mb ?_ | refine st_inst ?_ | refine st_gw ?_ | refine st_note ?_ | refine st_try ?_) | refine wpAny_ite_false rfl ?_ | refine wpAny_ite_true rfl ?_ | wp_delta | wp_step))
  have htk' : 0 < tk := htk
  refine unhold (prepT (by omega) fun tk1 htk1 => ?_)
  repeat (first | (with_reducible (first | refine st_ga ?_ | refine st_cc ?_ | refine st_cf ?_ | refine st_ef ?_ | refine st_bf ?_ | refine st_nbf ?_ | refine st_so ?_ | refine st_or ?_ | refine st_run ?_ | refine st_call' ?_ | refine st_ntm ?_)) | (first | with_reducible (first | refine wpa_bindK ?_ | refine kp_out ?_ | refine wpAny_pure ?_ | refine forQ_yield ?_ | refine forQ_done ?_ | refine wpa_for_nil ?_ | refine wpa_for_cons ?_ | refine wpAny_rule ?_ | refine wpAny_holding ?_ | refine wpAny_of_eq sub_tuple ?_ | refine wpAny_of_eq sub_dict ?_ | refine wpAny_of_eq sub_type ?_ | refine wpAny_of_eq sub_object ?_ | refine wpAny_of_eq typeOf_object ?_ | refine wpAny_of_eq look_dict_iter ?_ | refine wpAny_of_eq look_type_mro ?_ | refine wpAny_of_eq mro_object ?_ | refine st_seq ?_ | refine st_ext ?_ | refine st_trn ?_ | refine st_read ?_ | refine st_dict ?_ | refine st_nsget ?_ | refine st_newobj ?_ | refine st_nsset ?_ | refine st_nsdel ?_ | refine st_alloc ?_ | refine st_slot ?_ | refine st_ucls ?_ | refine st_hook ?_ | refine st_lin ?_ | refine st_rm ?_ | refine st_mb ?_ | refine st_inst ?_ | refine st_gw ?_ | refine st_note ?_ | refine st_try ?_) | refine wpAny_ite_false rfl ?_ | refine wpAny_ite_true rfl ?_ | wp_delta | wp_step))
  refine unhold (prep_call (Heap.get?_push_size _ rfl) ?_)
  repeat (first | (with_reducible (first | refine st_ga ?_ | refine st_cc ?_ | refine st_cf ?_ | refine st_ef ?_ | refine st_bf ?_ | refine st_nbf ?_ | refine st_so ?_ | refine st_or ?_ | refine st_run ?_ | refine st_call' ?_ | refine st_ntm ?_)) | (first | with_reducible (first | refine wpa_bindK ?_ | refine kp_out ?_ | refine wpAny_pure ?_ | refine forQ_yield ?_ | refine forQ_done ?_ | refine wpa_for_nil ?_ | refine wpa_for_cons ?_ | refine wpAny_rule ?_ | refine wpAny_holding ?_ | refine wpAny_of_eq sub_tuple ?_ | refine wpAny_of_eq sub_dict ?_ | refine wpAny_of_eq sub_type ?_ | refine wpAny_of_eq sub_object ?_ | refine wpAny_of_eq typeOf_object ?_ | refine wpAny_of_eq look_dict_iter ?_ | refine wpAny_of_eq look_type_mro ?_ | refine wpAny_of_eq mro_object ?_ | refine st_seq ?_ | refine st_ext ?_ | refine st_trn ?_ | refine st_read ?_ | refine st_dict ?_ | refine st_nsget ?_ | refine st_newobj ?_ | refine st_nsset ?_ | refine st_nsdel ?_ | refine st_alloc ?_ | refine st_slot ?_ | refine st_ucls ?_ | refine st_hook ?_ | refine st_lin ?_ | refine st_rm ?_ | refine st_mb ?_ | refine st_inst ?_ | refine st_gw ?_ | refine st_note ?_ | refine st_try ?_) | refine wpAny_ite_false rfl ?_ | refine wpAny_ite_true rfl ?_ | wp_delta | wp_step))
  generalize hH2 : (h.push { cls := .type "tuple", data := .seq ([.type "object"] : List Value).toArray }).push { cls := .type "builtin_function_or_method", data := .fields #[.builtin "type.__prepare__", .type "type"] } = H2
  generalize hH3 : H2.push { cls := .type "dict", data := .dict #[] } = H3
  have kp2 : ∀ b o, h.get? b = some o → H2.get? b = some o := fun b o e => hH2 ▸ Heap.get?_push_of_some _ (Heap.get?_push_of_some _ e)
  have kp3 : ∀ b o, h.get? b = some o → H3.get? b = some o := fun b o e => hH3 ▸ Heap.get?_push_of_some _ (kp2 b o e)
  have hBT : H3.get? h.objs.size = some (seqObj "tuple" #[.type "object"] 0) := by
    rw [← hH3, ← hH2]
    exact Heap.get?_push_of_some _ (Heap.get?_push_of_some _ (Heap.get?_push_size _ rfl))
  have hNN : H3.get? H2.objs.size = some { cls := .type "dict", data := .dict #[] } := by rw [← hH3]; exact Heap.get?_push_size _ rfl
  have szN : h.objs.size < H2.objs.size := by rw [← hH2, Heap.size_push, Heap.size_push]; omega
  generalize hNe : H2.objs.size = N at hNN szN ⊢
  have ntm : ∀ (Q : Unit → Shared → Prop) (E : Value → Shared → Prop) s', Q () s' → wpAny κ.M A (notTheModulesDict "class:the-namespace-that-__prepare__-gave" N) Q E s' := fun Q E s' hq => by
    unfold notTheModulesDict
    rw [if_neg (by have : N ≠ sysModules := Nat.ne_of_gt (Nat.lt_trans hsm szN); simpa using this)]
    exact wpAny_pure hq
  refine unhold (ntm _ _ _ ?_)
  have tD : ∀ tk', (⟨H3, g, d, tk', os⟩ : Shared).TypeIs (.ref N) "dict" := fun _ => ⟨_, hNN, rfl⟩
  repeat (first | (with_reducible (first | refine st_ga ?_ | refine st_cc ?_ | refine st_cf ?_ | refine st_ef ?_ | refine st_bf ?_ | refine st_nbf ?_ | refine st_so ?_ | refine st_or ?_ | refine st_run ?_ | refine st_call' ?_ | refine st_ntm ?_)) | (first | with_reducible (first | refine wpa_bindK ?_ | refine kp_out ?_ | refine wpAny_pure ?_ | refine forQ_yield ?_ | refine forQ_done ?_ | refine wpa_for_nil ?_ | refine wpa_for_cons ?_ | refine wpAny_rule ?_ | refine wpAny_holding ?_ | refine wpAny_of_eq sub_tuple ?_ | refine wpAny_of_eq sub_dict ?_ | refine wpAny_of_eq sub_type ?_ | refine wpAny_of_eq sub_object ?_ | refine wpAny_of_eq typeOf_object ?_ | refine wpAny_of_eq look_dict_iter ?_ | refine wpAny_of_eq look_type_mro ?_ | refine wpAny_of_eq mro_object ?_ | refine st_seq ?_ | refine st_ext ?_ | refine st_trn ?_ | refine st_read ?_ | refine st_dict ?_ | refine st_nsget ?_ | refine st_newobj ?_ | refine st_nsset ?_ | refine st_nsdel ?_ | refine st_alloc ?_ | refine st_slot ?_ | refine st_ucls ?_ | refine st_hook ?_ | refine st_lin ?_ | refine st_rm ?_ | refine st_mb ?_ | refine st_inst ?_ | refine st_gw ?_ | refine st_note ?_ | refine st_try ?_) | refine wpAny_ite_false rfl ?_ | refine wpAny_ite_true rfl ?_ | wp_delta | wp_step))
  refine unhold (show wpAny _ _ (specialOf _ _) _ _ _ from ?_)
  unfold specialOf
  refine wpAny_bind (wpAny_typeOf (tD _) (wpAny_of_eq slot_dict_getitem.lookup ?_))
  repeat (first | (with_reducible (first | refine st_ga ?_ | refine st_cc ?_ | refine st_cf ?_ | refine st_ef ?_ | refine st_bf ?_ | refine st_nbf ?_ | refine st_so ?_ | refine st_or ?_ | refine st_run ?_ | refine st_call' ?_ | refine st_ntm ?_)) | (first | with_reducible (first | refine wpa_bindK ?_ | refine kp_out ?_ | refine wpAny_pure ?_ | refine forQ_yield ?_ | refine forQ_done ?_ | refine wpa_for_nil ?_ | refine wpa_for_cons ?_ | refine wpAny_rule ?_ | refine wpAny_holding ?_ | refine wpAny_of_eq sub_tuple ?_ | refine wpAny_of_eq sub_dict ?_ | refine wpAny_of_eq sub_type ?_ | refine wpAny_of_eq sub_object ?_ | refine wpAny_of_eq typeOf_object ?_ | refine wpAny_of_eq look_dict_iter ?_ | refine wpAny_of_eq look_type_mro ?_ | refine wpAny_of_eq mro_object ?_ | refine st_seq ?_ | refine st_ext ?_ | refine st_trn ?_ | refine st_read ?_ | refine st_dict ?_ | refine st_nsget ?_ | refine st_newobj ?_ | refine st_nsset ?_ | refine st_nsdel ?_ | refine st_alloc ?_ | refine st_slot ?_ | refine st_ucls ?_ | refine st_hook ?_ | refine st_lin ?_ | refine st_rm ?_ | refine st_mb ?_ | refine st_inst ?_ | refine st_gw ?_ | refine st_note ?_ | refine st_try ?_) | refine wpAny_ite_false rfl ?_ | refine wpAny_ite_true rfl ?_ | wp_delta | wp_step))
  have l3 : ∀ tk', Lt κ.T NoX ⟨h, g, d, tk, os⟩ ⟨H3, g, d, tk', os⟩ := fun _ => .of_keep kp3
  have ok3 : Oks t H3 := by
    have := (l3 0).ok (by rw [hT]; exact hok)
    rw [hT] at this; exact this
  have sz3 : t.n0 ≤ H3.objs.size := by rw [← hH3, Heap.size_push, hNe]; have : t.n0 ≤ h.objs.size := hn0; omega
  refine unhold (wpAny_mono (wpAny_toks_of (n := 1) ?tk (coder_cls hT hgd hc sz3 ok3)) (fun v s1 z => ?_) fun _ _ z => z.2.elim)
  case tk => exact htk1
  refine Classical.byContradiction fun no => ?_
  obtain ⟨tk1', c, rfl, cok, ink, l1⟩ := z
  have l13 := (l3 tk1).trans l1
  obtain ⟨bmA, ob, e1, e2, e3, e4, e5, e6⟩ := bm.ext l13.ext
  have bs := b.ext l13.ext
  refine no ?_
  clear no
  repeat (first | (with_reducible (first | refine st_ga ?_ | refine st_cc ?_ | refine st_cf ?_ | refine st_ef ?_ | refine st_bf ?_ | refine st_nbf ?_ | refine st_so ?_ | refine st_or ?_ | refine st_run ?_ | refine st_call' ?_ | refine st_ntm ?_)) | (first | with_reducible (first | refine wpa_bindK ?_ | refine kp_out ?_ | refine wpAny_pure ?_ | refine forQ_yield ?_ | refine forQ_done ?_ | refine wpa_for_nil ?_ | refine wpa_for_cons ?_ | refine wpAny_rule ?_ | refine wpAny_holding ?_ | refine wpAny_of_eq sub_tuple ?_ | refine wpAny_of_eq sub_dict ?_ | refine wpAny_of_eq sub_type ?_ | refine wpAny_of_eq sub_object ?_ | refine wpAny_of_eq typeOf_object ?_ | refine wpAny_of_eq look_dict_iter ?_ | refine wpAny_of_eq look_type_mro ?_ | refine wpAny_of_eq mro_object ?_ | refine st_seq ?_ | refine st_ext ?_ | refine st_trn ?_ | refine st_read ?_ | refine st_dict ?_ | refine st_nsget ?_ | refine st_newobj ?_ | refine st_nsset ?_ | refine st_nsdel ?_ | refine st_alloc ?_ | refine st_slot ?_ | refine st_ucls ?_ | refine st_hook ?_ | refine st_lin ?_ | refine st_rm ?_ | refine st_mb ?_ | refine st_inst ?_ | refine st_gw ?_ | refine st_note ?_ | refine st_try ?_) | refine wpAny_ite_false rfl ?_ | refine wpAny_ite_true rfl ?_ | wp_delta | wp_step))
  rw [hg]
  refine unhold (wpAny_builtinsFor bs.g e1 e2 e3 e4 e5 e6 ?_)
  repeat (first | (with_reducible (first | refine st_ga ?_ | refine st_cc ?_ | refine st_cf ?_ | refine st_ef ?_ | refine st_bf ?_ | refine st_nbf ?_ | refine st_so ?_ | refine st_or ?_ | refine st_run ?_ | refine st_call' ?_ | refine st_ntm ?_)) | (first | with_reducible (first | refine wpa_bindK ?_ | refine kp_out ?_ | refine wpAny_pure ?_ | refine forQ_yield ?_ | refine forQ_done ?_ | refine wpa_for_nil ?_ | refine wpa_for_cons ?_ | refine wpAny_rule ?_ | refine wpAny_holding ?_ | refine wpAny_of_eq sub_tuple ?_ | refine wpAny_of_eq sub_dict ?_ | refine wpAny_of_eq sub_type ?_ | refine wpAny_of_eq sub_object ?_ | refine wpAny_of_eq typeOf_object ?_ | refine wpAny_of_eq look_dict_iter ?_ | refine wpAny_of_eq look_type_mro ?_ | refine wpAny_of_eq mro_object ?_ | refine st_seq ?_ | refine st_ext ?_ | refine st_trn ?_ | refine st_read ?_ | refine st_dict ?_ | refine st_nsget ?_ | refine st_newobj ?_ | refine st_nsset ?_ | refine st_nsdel ?_ | refine st_alloc ?_ | refine st_slot ?_ | refine st_ucls ?_ | refine st_hook ?_ | refine st_lin ?_ | refine st_rm ?_ | refine st_mb ?_ | refine st_inst ?_ | refine st_gw ?_ | refine st_note ?_ | refine st_try ?_) | refine wpAny_ite_false rfl ?_ | refine wpAny_ite_true rfl ?_ | wp_delta | wp_step))
  refine unhold (show wpAny _ _ (newBodyFrame _ _ _ _) _ _ _ from ?_)
  unfold newBodyFrame
  refine wpAny_bind (wpAny_nsGet bs.g (wpAny_alloc ?_))
  repeat (first | (with_reducible (first | refine st_ga ?_ | refine st_cc ?_ | refine st_cf ?_ | refine st_ef ?_ | refine st_bf ?_ | refine st_nbf ?_ | refine st_so ?_ | refine st_or ?_ | refine st_run ?_ | refine st_call' ?_ | refine st_ntm ?_)) | (first | with_reducible (first | refine wpa_bindK ?_ | refine kp_out ?_ | refine wpAny_pure ?_ | refine forQ_yield ?_ | refine forQ_done ?_ | refine wpa_for_nil ?_ | refine wpa_for_cons ?_ | refine wpAny_rule ?_ | refine wpAny_holding ?_ | refine wpAny_of_eq sub_tuple ?_ | refine wpAny_of_eq sub_dict ?_ | refine wpAny_of_eq sub_type ?_ | refine wpAny_of_eq sub_object ?_ | refine wpAny_of_eq typeOf_object ?_ | refine wpAny_of_eq look_dict_iter ?_ | refine wpAny_of_eq look_type_mro ?_ | refine wpAny_of_eq mro_object ?_ | refine st_seq ?_ | refine st_ext ?_ | refine st_trn ?_ | refine st_read ?_ | refine st_dict ?_ | refine st_nsget ?_ | refine st_newobj ?_ | refine st_nsset ?_ | refine st_nsdel ?_ | refine st_alloc ?_ | refine st_slot ?_ | refine st_ucls ?_ | refine st_hook ?_ | refine st_lin ?_ | refine st_rm ?_ | refine st_mb ?_ | refine st_inst ?_ | refine st_gw ?_ | refine st_note ?_ | refine st_try ?_) | refine wpAny_ite_false rfl ?_ | refine wpAny_ite_true rfl ?_ | wp_delta | wp_step))
  refine unhold (wpAny_of_eq hcl ?_)
  have d3 : Dct H3 N (fun _ => none) := ⟨⟨_, _, hNN⟩, Heap.Ns1.of_empty ⟨_, _, _, hNN, rfl, fun e he => (by simp at he), fun x => rfl⟩⟩
  have hNew : h.get? N = none := get_none_of_size (Nat.le_of_lt szN)
  have up4 : ∀ b o, s1.heap.get? b = some o → (s1.heap.push { cls := .type "frame", slots := #[some (.ref c), some (.ref mainGlobals), some (.ref N), none, some ((κ.mg "__name__").getD .none), none, some (.ref builtinsNs)] }).get? b = some o := fun b o e => Heap.get?_push_of_some _ e
  repeat (first | (with_reducible (first | refine st_ga ?_ | refine st_cc ?_ | refine st_cf ?_ | refine st_ef ?_ | refine st_bf ?_ | refine st_nbf ?_ | refine st_so ?_ | refine st_or ?_ | refine st_run ?_ | refine st_call' ?_ | refine st_ntm ?_)) | (first | with_reducible (first | refine wpa_bindK ?_ | refine kp_out ?_ | refine wpAny_pure ?_ | refine forQ_yield ?_ | refine forQ_done ?_ | refine wpa_for_nil ?_ | refine wpa_for_cons ?_ | refine wpAny_rule ?_ | refine wpAny_holding ?_ | refine wpAny_of_eq sub_tuple ?_ | refine wpAny_of_eq sub_dict ?_ | refine wpAny_of_eq sub_type ?_ | refine wpAny_of_eq sub_object ?_ | refine wpAny_of_eq typeOf_object ?_ | refine wpAny_of_eq look_dict_iter ?_ | refine wpAny_of_eq look_type_mro ?_ | refine wpAny_of_eq mro_object ?_ | refine st_seq ?_ | refine st_ext ?_ | refine st_trn ?_ | refine st_read ?_ | refine st_dict ?_ | refine st_nsget ?_ | refine st_newobj ?_ | refine st_nsset ?_ | refine st_nsdel ?_ | refine st_alloc ?_ | refine st_slot ?_ | refine st_ucls ?_ | refine st_hook ?_ | refine st_lin ?_ | refine st_rm ?_ | refine st_mb ?_ | refine st_inst ?_ | refine st_gw ?_ | refine st_note ?_ | refine st_try ?_) | refine wpAny_ite_false rfl ?_ | refine wpAny_ite_true rfl ?_ | wp_delta | wp_step))
  generalize hH4 : s1.heap.push { cls := .type "frame", slots := #[some (.ref c), some (.ref mainGlobals), some (.ref N), none, some ((κ.mg "__name__").getD .none), none, some (.ref builtinsNs)] } = H4 at up4 ⊢
  have l34 : Lt κ.T NoX ⟨H3, g, d, tk1, os⟩ ⟨H4, s1.gens, s1.drawn, s1.toks, s1.os⟩ := l1.trans (.of_keep up4)
  have l14 := (l3 tk1).trans l34
  have F4 : Cb κ ⟨h, g, d, tk, os⟩ N [] ⟨H4, s1.gens, s1.drawn, s1.toks, s1.os⟩ := ⟨l14, hNew, d3.ext l34.ext, fun p hp => (by cases hp), tk1', by rw [hT]; exact hok⟩
  refine unhold (wpAny_enterFrame (b.ext l14.ext).lim rm.depth ?_)
  repeat (first | (with_reducible (first | refine st_ga ?_ | refine st_cc ?_ | refine st_cf ?_ | refine st_ef ?_ | refine st_bf ?_ | refine st_nbf ?_ | refine st_so ?_ | refine st_or ?_ | refine st_run ?_ | refine st_call' ?_ | refine st_ntm ?_)) | (first | with_reducible (first | refine wpa_bindK ?_ | refine kp_out ?_ | refine wpAny_pure ?_ | refine forQ_yield ?_ | refine forQ_done ?_ | refine wpa_for_nil ?_ | refine wpa_for_cons ?_ | refine wpAny_rule ?_ | refine wpAny_holding ?_ | refine wpAny_of_eq sub_tuple ?_ | refine wpAny_of_eq sub_dict ?_ | refine wpAny_of_eq sub_type ?_ | refine wpAny_of_eq sub_object ?_ | refine wpAny_of_eq typeOf_object ?_ | refine wpAny_of_eq look_dict_iter ?_ | refine wpAny_of_eq look_type_mro ?_ | refine wpAny_of_eq mro_object ?_ | refine st_seq ?_ | refine st_ext ?_ | refine st_trn ?_ | refine st_read ?_ | refine st_dict ?_ | refine st_nsget ?_ | refine st_newobj ?_ | refine st_nsset ?_ | refine st_nsdel ?_ | refine st_alloc ?_ | refine st_slot ?_ | refine st_ucls ?_ | refine st_hook ?_ | refine st_lin ?_ | refine st_rm ?_ | refine st_mb ?_ | refine st_inst ?_ | refine st_gw ?_ | refine st_note ?_ | refine st_try ?_) | refine wpAny_ite_false rfl ?_ | refine wpAny_ite_true rfl ?_ | wp_delta | wp_step))
  refine unhold (wpAny_onRaise (cb_head (cenv := cenvK scope nameK cl N c s1.heap.objs.size) (q := nameK) (fl := fl) F4 rfl hsc b rfl hm h1 h2 h3 h4 fun tq ti s5 F5 l5 => ?_))
  have ok5 : Oks t s5.heap := by
    have := F5.l.ok (by rw [hT]; exact hok)
    rw [hT] at this; exact this
  have ok4 : Oks t H4 := by
    have := l14.ok (by rw [hT]; exact hok)
    rw [hT] at this; exact this
  have ink5 : InK t s5.heap c := InK.extN hT ok5 (InK.ext hT ok4 ink (Ext.of_keep up4)) F4.d.ob l5.ext
  repeat (first | (with_reducible (first | refine st_ga ?_ | refine st_cc ?_ | refine st_cf ?_ | refine st_ef ?_ | refine st_bf ?_ | refine st_nbf ?_ | refine st_so ?_ | refine st_or ?_ | refine st_run ?_ | refine st_call' ?_ | refine st_ntm ?_)) | (first | with_reducible (first | refine wpa_bindK ?_ | refine kp_out ?_ | refine wpAny_pure ?_ | refine forQ_yield ?_ | refine forQ_done ?_ | refine wpa_for_nil ?_ | refine wpa_for_cons ?_ | refine wpAny_rule ?_ | refine wpAny_holding ?_ | refine wpAny_of_eq sub_tuple ?_ | refine wpAny_of_eq sub_dict ?_ | refine wpAny_of_eq sub_type ?_ | refine wpAny_of_eq sub_object ?_ | refine wpAny_of_eq typeOf_object ?_ | refine wpAny_of_eq look_dict_iter ?_ | refine wpAny_of_eq look_type_mro ?_ | refine wpAny_of_eq mro_object ?_ | refine st_seq ?_ | refine st_ext ?_ | refine st_trn ?_ | refine st_read ?_ | refine st_dict ?_ | refine st_nsget ?_ | refine st_newobj ?_ | refine st_nsset ?_ | refine st_nsdel ?_ | refine st_alloc ?_ | refine st_slot ?_ | refine st_ucls ?_ | refine st_hook ?_ | refine st_lin ?_ | refine st_rm ?_ | refine st_mb ?_ | refine st_inst ?_ | refine st_gw ?_ | refine st_note ?_ | refine st_try ?_) | refine wpAny_ite_false rfl ?_ | refine wpAny_ite_true rfl ?_ | wp_delta | wp_step))
  refine unhold (wpAny_run (codeAny_mono (hbody N c s1.heap.objs.size s5 tq ti F5 ink5) fun r s6 z => ?_))
  refine Classical.byContradiction fun no => ?_
  obtain ⟨rfl, l6, ms, F6, kn, kl, rk⟩ := z
  have hbt6 : s6.heap.get? h.objs.size = some (seqObj "tuple" #[.type "object"] 0) := by
    have nb : h.objs.size ≠ N := Nat.ne_of_lt szN
    exact l6.ext.get nb (l5.ext.get nb (Ext.get l34.ext hBT fun z => by cases z) fun z => by cases z) fun z => by cases z
  refine no ?_
  clear no
  repeat (first | (with_reducible (first | refine st_ga ?_ | refine st_cc ?_ | refine st_cf ?_ | refine st_ef ?_ | refine st_bf ?_ | refine st_nbf ?_ | refine st_so ?_ | refine st_or ?_ | refine st_run ?_ | refine st_call' ?_ | refine st_ntm ?_)) | (first | with_reducible (first | refine wpa_bindK ?_ | refine kp_out ?_ | refine wpAny_pure ?_ | refine forQ_yield ?_ | refine forQ_done ?_ | refine wpa_for_nil ?_ | refine wpa_for_cons ?_ | refine wpAny_rule ?_ | refine wpAny_holding ?_ | refine wpAny_of_eq sub_tuple ?_ | refine wpAny_of_eq sub_dict ?_ | refine wpAny_of_eq sub_type ?_ | refine wpAny_of_eq sub_object ?_ | refine wpAny_of_eq typeOf_object ?_ | refine wpAny_of_eq look_dict_iter ?_ | refine wpAny_of_eq look_type_mro ?_ | refine wpAny_of_eq mro_object ?_ | refine st_seq ?_ | refine st_ext ?_ | refine st_trn ?_ | refine st_read ?_ | refine st_dict ?_ | refine st_nsget ?_ | refine st_newobj ?_ | refine st_nsset ?_ | refine st_nsdel ?_ | refine st_alloc ?_ | refine st_slot ?_ | refine st_ucls ?_ | refine st_hook ?_ | refine st_lin ?_ | refine st_rm ?_ | refine st_mb ?_ | refine st_inst ?_ | refine st_gw ?_ | refine st_note ?_ | refine st_try ?_) | refine wpAny_ite_false rfl ?_ | refine wpAny_ite_true rfl ?_ | wp_delta | wp_step))
  refine unhold (wpAny_onRaise (wpAny_bind ?_))
  unfold List.mapM List.mapM.loop List.mapM.loop
  refine wpAny_bind (wpAny_mkText (wpAny_pure (wpAny_bind (wpAny_newTextTuple ?_))))
  generalize hH7 : s6.heap.push { cls := .type "tuple", data := .seq (([.str "obj" s6.toks] : List Value).reverse).toArray } = H7
  have up7 : ∀ b o, s6.heap.get? b = some o → H7.get? b = some o := fun b o e => hH7 ▸ Heap.get?_push_of_some _ e
  have hT7 : H7.get? s6.heap.objs.size = some { cls := .type "tuple", data := .seq (([.str "obj" s6.toks] : List Value).reverse).toArray } := by rw [← hH7]; exact Heap.get?_push_size _ rfl
  have F7 : Cb κ ⟨h, g, d, tk, os⟩ N ms ⟨H7, s6.gens, s6.drawn, s6.toks + 1, s6.os⟩ := F6.on (.of_keep up7) (Nat.succ_pos _)
  have hst : ∀ (Q : Unit → Shared → Prop) (E : Value → Shared → Prop), (∀ s8, Cb κ ⟨h, g, d, tk, os⟩ N (("__static_attributes__", .ref s6.heap.objs.size) :: ms) s8 → (∀ b o, b ≠ N → s6.heap.get? b = some o → s8.heap.get? b = some o) → Lt κ.T (fun b => b = N) s6 s8 → Q () s8) →
      wpAny κ.M A (storeName (cenvK scope nameK cl N c s1.heap.objs.size) "__static_attributes__" (.ref s6.heap.objs.size)) Q E ⟨H7, s6.gens, s6.drawn, s6.toks + 1, s6.os⟩ := fun Q E k =>
    F7.store rfl hsc (by show (scope.names.lookup ("__static_attributes__" : Str) == _ || (scope.names.lookup ("__static_attributes__" : Str) == _ && _)) = true; rw [h5]; rfl) (.inr (.inr (.inr ⟨_, _, "tuple", rfl, hT7, rfl, by decide⟩))) fun s8 F8 l8 hs8 _ => k s8 F8 (fun b o nb e => (hs8.2 b nb).trans (up7 b o e)) ((Lt.of_keep up7).trans l8)
  refine wpAny_bind (hst _ _ fun s8 F8 up8 l8 => ?_)
  repeat (first | (with_reducible (first | refine st_ga ?_ | refine st_cc ?_ | refine st_cf ?_ | refine st_ef ?_ | refine st_bf ?_ | refine st_nbf ?_ | refine st_so ?_ | refine st_or ?_ | refine st_run ?_ | refine st_call' ?_ | refine st_ntm ?_)) | (first | with_reducible (first | refine wpa_bindK ?_ | refine kp_out ?_ | refine wpAny_pure ?_ | refine forQ_yield ?_ | refine forQ_done ?_ | refine wpa_for_nil ?_ | refine wpa_for_cons ?_ | refine wpAny_rule ?_ | refine wpAny_holding ?_ | refine wpAny_of_eq sub_tuple ?_ | refine wpAny_of_eq sub_dict ?_ | refine wpAny_of_eq sub_type ?_ | refine wpAny_of_eq sub_object ?_ | refine wpAny_of_eq typeOf_object ?_ | refine wpAny_of_eq look_dict_iter ?_ | refine wpAny_of_eq look_type_mro ?_ | refine wpAny_of_eq mro_object ?_ | refine st_seq ?_ | refine st_ext ?_ | refine st_trn ?_ | refine st_read ?_ | refine st_dict ?_ | refine st_nsget ?_ | refine st_newobj ?_ | refine st_nsset ?_ | refine st_nsdel ?_ | refine st_alloc ?_ | refine st_slot ?_ | refine st_ucls ?_ | refine st_hook ?_ | refine st_lin ?_ | refine st_rm ?_ | refine st_mb ?_ | refine st_inst ?_ | refine st_gw ?_ | refine st_note ?_ | refine st_try ?_) | refine wpAny_ite_false rfl ?_ | refine wpAny_ite_true rfl ?_ | wp_delta | wp_step))
  have kn8 : KNs (("__static_attributes__", .ref s6.heap.objs.size) :: ms) s8.heap nameK := by
    have ne : ∀ x : Str, (x == "__static_attributes__") = false → ((("__static_attributes__" : Str), Value.ref s6.heap.objs.size) :: ms).lookup x = ms.lookup x := fun x hx => by rw [List.lookup_cons, hx]
    obtain ⟨sl, to, n', e1, e2⟩ := kn.slots
    refine ⟨⟨sl, to, n', by rw [ne _ (by decide)]; exact e1, up8 sl _ (fun q => ?_) e2⟩, by rw [ne _ (by decide)]; exact kn.md, ?_, ?_, by rw [ne _ (by decide)]; exact kn.eq, by rw [ne _ (by decide)]; exact kn.hash, ?_⟩
    · obtain ⟨es, ep, hN6⟩ := F6.d.ob
      rw [q, hN6] at e2
      exact absurd (congrArg Obj.cls (Option.some.inj e2)) (show Value.type "dict" ≠ Value.type "list" by decide)
    · obtain ⟨tq, e⟩ := kn.qn
      exact ⟨tq, by rw [ne _ (by decide)]; exact e⟩
    · refine List.all_eq_true.mpr fun x hx => ?_
      have := List.all_eq_true.mp kn.nones x hx
      rw [ne x ?_]
      · exact this
      · clear this; revert x hx; decide
    · rw [List.length_cons]; omega
  obtain ⟨h8, g8, d8, tk8, os8⟩ := s8
  have hbt8 : h8.get? h.objs.size = some (seqObj "tuple" #[.type "object"] 0) := up8 _ _ (Nat.ne_of_lt szN) hbt6
  have hne : (N == sysModules) = false := by have : N ≠ sysModules := Nat.ne_of_gt (Nat.lt_trans hsm szN); simpa using this
  have hpk8 : NoPack h8 := by obtain ⟨mc, a, e⟩ := hpk; exact ⟨mc, ns_ext F8.l.ext a, e⟩
  refine unhold (type_call (type_new_K hbt8 F8.d kn8 F8.pl hne hpk8 fun h9 a N' D tD tk' tq' m' x1 x2 x0 x3 x4 x5 x6 => ?_))
  refine ⟨a, _, _, rfl, x1, ?_⟩
  repeat (first | (with_reducible (first | refine st_ga ?_ | refine st_cc ?_ | refine st_cf ?_ | refine st_ef ?_ | refine st_bf ?_ | refine st_nbf ?_ | refine st_so ?_ | refine st_or ?_ | refine st_run ?_ | refine st_call' ?_ | refine st_ntm ?_)) | (first | with_reducible (first | refine wpa_bindK ?_ | refine kp_out ?_ | refine wpAny_pure ?_ | refine forQ_yield ?_ | refine forQ_done ?_ | refine wpa_for_nil ?_ | refine wpa_for_cons ?_ | refine wpAny_rule ?_ | refine wpAny_holding ?_ | refine wpAny_of_eq sub_tuple ?_ | refine wpAny_of_eq sub_dict ?_ | refine wpAny_of_eq sub_type ?_ | refine wpAny_of_eq sub_object ?_ | refine wpAny_of_eq typeOf_object ?_ | refine wpAny_of_eq look_dict_iter ?_ | refine wpAny_of_eq look_type_mro ?_ | refine wpAny_of_eq mro_object ?_ | refine st_seq ?_ | refine st_ext ?_ | refine st_trn ?_ | refine st_read ?_ | refine st_dict ?_ | refine st_nsget ?_ | refine st_newobj ?_ | refine st_nsset ?_ | refine st_nsdel ?_ | refine st_alloc ?_ | refine st_slot ?_ | refine st_ucls ?_ | refine st_hook ?_ | refine st_lin ?_ | refine st_rm ?_ | refine st_mb ?_ | refine st_inst ?_ | refine st_gw ?_ | refine st_note ?_ | refine st_try ?_) | refine wpAny_ite_false rfl ?_ | refine wpAny_ite_true rfl ?_ | wp_delta | wp_step))
  refine hQ ms N s6 a N' D tD ⟨h.objs.size, tk, tq'⟩ m' _ rk F6.d.ob (fun b o nb e => x6 b o (up8 b o nb e)) x1 x2 (Ext.back F8.l.ext x0) (fun x n1 n2 n3 n4 => ?_) x4 x5 (F8.l.trans (.of_keep x6))
  rw [x3 x n1 n2 n3, List.lookup_cons, show (x == "__static_attributes__") = false by simpa using n4]
end Mine
end
section
open PySem PySem.W PySem.W.X PyProof.Rows PySem.Calls
set_option Elab.async false
set_option maxRecDepth 100000
set_option maxHeartbeats 1000000
namespace Mine
/-! ## the class statement -/
section
variable {κ : Cx} {A : Around} {E : Value → Shared → Prop} {s : Shared}
theorem evalArgs_false {f : Value} {x : Sem Value} {rest : List (Bool × Sem Value)} {Q : Args → Shared → Prop}
    (h : wpAny κ.M A (spliced ((false, x) :: rest)) (fun vs s' => Q ⟨vs, []⟩ s') E s) : wpAny κ.M A (evalArgs f false ((false, x) :: rest) []) Q E s := by
  unfold evalArgs
  show wpAny κ.M A (spliced ((false, x) :: rest) >>= _) Q E s
  refine wpAny_bind (wpAny_mono h (fun vs s' h' => ?_) fun _ _ x => x)
  refine wpAny_holding ?_
  exact wpAny_bind (wpAny_pure (wpAny_bind (wpAny_pure (wpAny_pure h'))))
/-- what one K is -/
structure KMade (s' : Shared) (a N' D : Addr) (m' : Str → Option Value) : Prop where
  ob : ∃ k, s'.heap.get? a = some (kObj a N' k)
  ns : s'.heap.Ns1 N' m'
  sl : m' "obj" = some (.ref D)
  md : ∃ tD, s'.heap.get? D = some { cls := .type "member_descriptor", data := .fields #[.str "obj" tD, .ref a, .builtin "proto.slot", .builtin "proto.slot#set", rawInt 0] }
theorem class_stmt {t : Tx} {lo : Prop} {n : Nat} {env : Env} {body : List Stmt} {scope : Scope} {tsc : Option Scope} {p pos : Pos} {cl : List (Str × Addr)} {nm : Str} {tn : Tok} {Q : Flow → Shared → Prop} {Rk : List (Str × Value) → Shared → Prop} (b : Base κ s.heap) (bm : Bm κ s.heap) (hpk : NoPack s.heap) (hT : κ.T = t.tb lo) (hgd : t.Good) (hn0 : t.n0 ≤ s.heap.objs.size) (hok : Oks t s.heap) (htk : 0 < s.toks) (hsm : sysModules < s.heap.objs.size)
    (hc : env.code = .ref t.ck) (hg : env.globals = mainGlobals) (hbl : env.builtins = builtinsNs) (hkf : env.scope.kind = .function) (hob : env.kindOf "object" = some .globalImplicit) (hmo : κ.mg "object" = none) (hbo : κ.mb "object" = some (.type "object")) (hbc : κ.mb "__build_class__" = some (.builtin "__build_class__"))
    (hq : qualnameIn env "K" "K" = nameK) (hpos : pos = t.kpos) (hcl : closureFor scope env = pure cl) (hm : κ.mg "__name__" = some (.str nm tn)) (rm : Rm (n + 1) A)
    (hkc : (scope.names.lookup ("__class__" : Str) == some NameKind.cell) = false) (hkd : (scope.names.lookup ("__classdict__" : Str) == some NameKind.cell) = false) (hsc : scope.kind = .class)
    (h1 : scope.names.lookup ("__name__" : Str) = none) (h2 : scope.names.lookup ("__module__" : Str) = some .local ∨ scope.names.lookup ("__module__" : Str) = none) (h3 : scope.names.lookup ("__qualname__" : Str) = none) (h4 : scope.names.lookup ("__firstlineno__" : Str) = none) (h5 : scope.names.lookup ("__static_attributes__" : Str) = none)
    (hbody : ∀ N c F s1 tq ti, Cb κ s N [("__firstlineno__", .int pos.line ti), ("__qualname__", .str nameK tq), ("__module__", .str nm tn)] s1 → InK t s1.heap c →
      codeAny κ.M A (.body body (cenvK scope nameK cl N c F)) (fun r s2 => r = .ok .next ∧ Lt κ.T (fun b => b = N) s1 s2 ∧ ∃ ms, Cb κ s N ms s2 ∧ KNs ms s2.heap nameK ∧ ms.length ≤ 50 ∧ Rk ms s2) s1)
    (hQ : ∀ ms N s6 a N' D m' s', Rk ms s6 → (∃ es ep, s6.heap.get? N = some { cls := .type "dict", data := .dict es ep }) → (∀ b o, b ≠ N → s6.heap.get? b = some o → s'.heap.get? b = some o) → KMade s' a N' D m' → s.heap.get? N' = none → (∀ x : Str, x ≠ "__qualname__" → x ≠ "obj" → x ≠ "__doc__" → x ≠ "__static_attributes__" → m' x = ms.lookup x) →
      Lt κ.T NoX s s' → 0 < s'.toks → wpAny κ.M A (storeName env "K" (.ref a)) (fun _ s'' => Q .next s'') (fun _ _ => False) s') :
    wpAny κ.M A (exec (.ClassDef "K" [.Name "object" p] [] body [] [] scope tsc "K" ["obj"] pos) env) Q (fun _ _ => False) s := by
  subst hpos
  rw [arm_exec_ClassDef]
  refine wpAny_bind (wpAny_pure (wpAny_bind (wpAny_standAt ?_)))
  have guard : ∀ (Q : Unit → Shared → Prop) (E : Value → Shared → Prop), Q () s → wpAny κ.M A (buildClassGuard env) Q E s := fun Q E hq => by
    unfold buildClassGuard
    rw [hbl]
    refine wpAny_bind (wpAny_nsGet b.b ?_)
    rw [hbc]
    exact wpAny_pure hq
  refine wpAny_bind (guard _ _ (wpAny_bind (wpAny_holding ?_)))
  have ld : ∀ (Q : Value → Shared → Prop) (E : Value → Shared → Prop), Q (.type "object") s → wpAny κ.M A (eval (.Name "object" p) env) Q E s := fun Q E hq => by
    refine wpAny_Name ?_ (by decide)
    unfold loadName
    simp only [Env.blockKind, hkf, hob, ScopeKind.isAnnotationScope, Bool.false_and, Bool.false_eq_true, if_false]
    exact loadGlobal_builtin (by rw [hg]; exact b.g) hmo (by rw [hbl]; exact b.b) hbo hq
  have he : ∀ pos, backTo pos (starEach [.Name "object" p] env) = (false, eval (.Name "object" p) env) :: backTo pos (starEach [] env) := by intro _; rfl
  show wpAny κ.M A (evalArgs (.builtin "__build_class__") false (backTo t.kpos (starEach [.Name "object" p] env)) [] >>= _) _ _ s
  refine wpAny_bind ?_
  rw [he]
  refine evalArgs_false (spliced_cons (ld _ _ (spliced_nil ?_)))
  refine wpAny_bind (wpAny_standAt (wpAny_holding ?_))
  rw [hq]
  refine wpAny_mono (wpAny_toks_of (n := 1) htk (build_K (Q := fun v s' => ∃ ms N s6 a N' D m', v = .ref a ∧ Rk ms s6 ∧ (∃ es ep, s6.heap.get? N = some { cls := .type "dict", data := .dict es ep }) ∧ (∀ b o, b ≠ N → s6.heap.get? b = some o → s'.heap.get? b = some o) ∧ KMade s' a N' D m' ∧ s.heap.get? N' = none ∧ (∀ x : Str, x ≠ "__qualname__" → x ≠ "obj" → x ≠ "__doc__" → x ≠ "__static_attributes__" → m' x = ms.lookup x) ∧ Lt κ.T NoX s s') b bm hpk hT hgd hn0 hok htk hsm hc hg hcl hm rm hkc hkd hsc h1 h2 h3 h4 h5 hbody
    fun ms N s6 a N' D tD sl m' s' x1 x0 x2 x3 x4 x9 x5 x6 x7 x8 => ⟨ms, N, s6, a, N', D, m', rfl, x1, x0, x2, ⟨⟨sl, x3⟩, x4, x6, ⟨tD, x7⟩⟩, x9, x5, x8⟩)) (fun v s' z => ?_) fun _ _ z => z.2.elim
  refine Classical.byContradiction fun nay => ?_
  obtain ⟨tk, ms, N, s6, a, N', D, m', rfl, x1, x0, x2, x3, x9, x4, x5⟩ := z
  refine nay ?_
  clear nay
  show wpAny κ.M A (decorate [] (.ref a) >>= _) _ _ s'
  refine wpAny_bind (wpAny_pure (wpAny_bind (wpAny_standAt (wpAny_bind (wpAny_bindName (wpAny_mono (hQ ms N s6 a N' D m' s' x1 x0 x2 x3 x9 x4 x5 tk) (fun _ s'' z => wpAny_pure z) fun _ _ z => z))))))
end
end Mine
end
section
open PySem PySem.W PySem.W.X PyProof.Rows PySem.Calls
set_option Elab.async false
set_option maxRecDepth 100000
set_option maxHeartbeats 1000000
namespace Mine
/-! ## what cmp_to_key's class is -/
inductive MethE (op : CmpOp) : Expr → Prop
  | mk (p1 p2 p3 p4 p5 p6 p7 p8 : Pos) : MethE op (.Compare (.Call (.Name "mycmp" p1) [.Attribute (.Name "self" p2) "obj" p3, .Attribute (.Name "other" p4) "obj" p5] [] p6) [op] [.Constant (.int 0) 0 p7] p8)
inductive IniB : List Stmt → Prop
  | mk (p1 p2 p3 p4 : Pos) : IniB [.Assign [.Attribute (.Name "self" p1) "obj" p2] (.Name "obj" p3) p4]
noncomputable def mScope : Scope := { kind := .function, names := [("self", .local), ("other", .local), ("mycmp", .free)], isGenerator := false, isCoroutine := false, more := [] }
noncomputable def iScope : Scope := { kind := .function, names := [("self", .local), ("obj", .local)], isGenerator := false, isCoroutine := false, more := [] }
structure KFn (h : Heap) (f : Addr) (fd : FuncData) : Prop where
  ob : h.get? f = some (fnObj fd)
  code : CodeOk h fd.code fd.qualname
  g : fd.globals = mainGlobals
  b : fd.builtins = builtinsNs
noncomputable def KMeth (h : Heap) (cell : Addr) (op : CmpOp) (fl : Addr) : Prop :=
  ∃ fd e, KFn h fl fd ∧ OneE fd.body e ∧ MethE op e ∧ fd.scope = mScope ∧ fd.closure = [(("mycmp" : Str), cell)] ∧ ∀ v w, bindArgs fd ⟨[v, w], []⟩ = pure [(("self" : Str), v), (("other" : Str), w)]
noncomputable def KIni (h : Heap) (fl : Addr) : Prop :=
  ∃ fd body, KFn h fl fd ∧ fd.body = .stmts body ∧ IniB body ∧ fd.scope = iScope ∧ fd.closure = [] ∧ ∀ v w, bindArgs fd ⟨[v, w], []⟩ = pure [(("self" : Str), v), (("obj" : Str), w)]
noncomputable def mops : List (Str × CmpOp) := [("__lt__", .Lt), ("__gt__", .Gt), ("__eq__", .Eq), ("__le__", .LtE), ("__ge__", .GtE)]
noncomputable def kNames : List Str := ["__module__", "__slots__", "__init__", "__lt__", "__gt__", "__eq__", "__le__", "__ge__", "__hash__", "__firstlineno__", "__qualname__", "obj", "__doc__", "__static_attributes__"]
structure KAt (h : Heap) (a : Addr) (f : Value) (N D cell fi : Addr) (m : Str → Option Value) : Prop where
  ob : ∃ k, h.get? a = some (kObj a N k)
  ns : h.Ns1 N m
  sl : m "obj" = some (.ref D)
  md : ∃ tD, h.get? D = some { cls := .type "member_descriptor", data := .fields #[.str "obj" tD, .ref a, .builtin "proto.slot", .builtin "proto.slot#set", rawInt 0] }
  ce : h.IsCell cell (some f)
  ini : m "__init__" = some (.ref fi)
  inf : KIni h fi
  ops : ∀ x op, (x, op) ∈ mops → ∃ fl, m x = some (.ref fl) ∧ KMeth h cell op fl
  no : ∀ x, x ∉ kNames → m x = none
/-- the class K at a, for the comparison f -/
noncomputable def IsK (h : Heap) (a : Addr) (f : Value) : Prop := ∃ N D cell fi m, KAt h a f N D cell fi m
section
variable {T : Tb} {h h' : Heap} {a cell fl : Addr} {f : Value} {op : CmpOp}
theorem ns1_ext {m : Str → Option Value} (k : Ext T h h') (x : h.Ns1 a m) : h'.Ns1 a m := x.at fun o e => by
  obtain ⟨o', es, ep, e', hd, _⟩ := x
  rw [e] at e'; cases e'
  exact Ext.get_data k e fun vs q => by rw [hd] at q; cases q
theorem KFn.ext {fd : FuncData} (x : KFn h fl fd) (k : Ext T h h') : KFn h' fl fd := ⟨Ext.get k x.ob (fun z => by cases z), x.code.ext k, x.g, x.b⟩
theorem KMeth.ext (x : KMeth h cell op fl) (k : Ext T h h') : KMeth h' cell op fl := by obtain ⟨fd, e, y, r⟩ := x; exact ⟨fd, e, y.ext k, r⟩
theorem KIni.ext (x : KIni h fl) (k : Ext T h h') : KIni h' fl := by obtain ⟨fd, e, y, r⟩ := x; exact ⟨fd, e, y.ext k, r⟩
theorem KAt.ext {N D fi : Addr} {m : Str → Option Value} (y : KAt h a f N D cell fi m) (k : Ext T h h') : KAt h' a f N D cell fi m :=
  ⟨by obtain ⟨kk, e⟩ := y.ob; exact ⟨kk, Ext.get k e fun z => by cases z⟩, ns1_ext k y.ns, y.sl, by obtain ⟨tD, e⟩ := y.md; exact ⟨tD, Ext.get k e fun z => by cases z⟩, cell_ext k y.ce, y.ini, y.inf.ext k, fun x op hx => by obtain ⟨fl, p, q⟩ := y.ops x op hx; exact ⟨fl, p, q.ext k⟩, y.no⟩
theorem IsK.ext (x : IsK h a f) (k : Ext T h h') : IsK h' a f := by obtain ⟨N, D, cell, fi, m, y⟩ := x; exact ⟨N, D, cell, fi, m, y.ext k⟩
/-- its dict and its cell lie in V -/
noncomputable def IsKV (V : Addr → Prop) (h : Heap) (a : Addr) (f : Value) : Prop := ∃ N D cell fi m, KAt h a f N D cell fi m ∧ V N ∧ V cell
theorem IsKV.isK {V : Addr → Prop} (x : IsKV V h a f) : IsK h a f := by obtain ⟨N, D, cell, fi, m, y, _⟩ := x; exact ⟨N, D, cell, fi, m, y⟩
theorem codeOk_keep {v : Value} {q : Str} {N : Addr} (x : CodeOk h v q) (hN : ∃ es ep, h.get? N = some { cls := .type "dict", data := .dict es ep }) (k : ∀ b o, b ≠ N → h.get? b = some o → o.cls ≠ .none → h'.get? b = some o) : CodeOk h' v q := by
  obtain ⟨c, o, vs, t, a, b, cl, d, e⟩ := x.ok
  refine ⟨c, o, vs, t, a, k c o (fun z => ?_) b (by rw [cl]; exact fun z => by cases z), cl, d, e⟩
  obtain ⟨es, ep, hN⟩ := hN
  rw [z, hN] at b; cases b; cases d
theorem KFn.keep {fd : FuncData} {N : Addr} (x : KFn h fl fd) (hN : ∃ es ep, h.get? N = some { cls := .type "dict", data := .dict es ep }) (k : ∀ b o, b ≠ N → h.get? b = some o → o.cls ≠ .none → h'.get? b = some o) : KFn h' fl fd := by
  refine ⟨k fl _ (fun z => ?_) x.ob (fun z => by cases z), codeOk_keep x.code hN k, x.g, x.b⟩
  obtain ⟨es, ep, hN⟩ := hN
  have := x.ob
  rw [z, hN] at this
  exact absurd (congrArg Obj.cls (Option.some.inj this)) (show Value.type "dict" ≠ Value.type "function" by decide)
end
section
variable {κ : Cx} {A : Around} {E : Value → Shared → Prop} {s s₀ : Shared} {N : Addr} {ms : List (Str × Value)} {cenv : Env}
theorem cb_fn {t : Tx} {lo : Prop} {name qual : Str} {params : Arguments} {body : List Stmt} {scope : Scope} {pos : Pos} {cl : List (Str × Addr)} {c : Addr} {rest : List Stmt} {Q : Flow → Shared → Prop} (F : Cb κ s₀ N ms s) (hN : cenv.locals = N) (hc : cenv.scope.kind = .class) (hk : (cenv.kindOf name == some .local || (cenv.kindOf name == none && compilersOwnNames.contains name)) = true)
    (b : Base κ s₀.heap) (bm : Bm κ s₀.heap) (hg : cenv.globals = mainGlobals) (hcl : closureFor scope cenv = pure cl) (hd0 : params.defaults = []) (hk0 : params.kw_defaults = []) (ha : annTrees params none cenv = []) (hq : qualnameIn cenv name name = qual)
    (hT : κ.T = t.tb lo) (hgd : t.Good) (hcc : cenv.code = .ref c) (hik : InK t s.heap c) (hqk : t.qk pos = qual) (hq' : ∀ p, p.line = pos.line → p.col = pos.col → t.qk p = t.qk pos)
    (k : ∀ f fd s2, KFn s2.heap f fd → (fd.body = .stmts body ∧ fd.scope = scope ∧ fd.closure = cl ∧ (∃ ctv code pm doc, fd = fnK name qual params (.stmts body) scope cl ctv code pm doc)) → Cb κ s₀ N ((name, .ref f) :: ms) s2 → Lt κ.T (fun b => b = N) s s2 → InK t s2.heap c → wpAny κ.M A (execs rest cenv) Q E s2) :
    wpAny κ.M A (execs (.FunctionDef name params body [] none [] scope none name pos :: rest) cenv) Q E s := by
  have okT : ∀ s' : Shared, κ.T.ok s'.heap → Oks t s'.heap := fun s' z => by rw [hT] at z; exact z
  refine cb_def F hN hc hk b bm hg hcl hd0 hk0 ha hq (fun s1 l1 => ?_) fun f ctv code pm doc s2 e1 e2 e3 F2 l2 => ?_
  · have ok1 := okT s1 (l1.ok (F.l.ok F.ok))
    rw [← hqk]
    exact coder_meth hT hgd hcc (InK.ext hT ok1 hik l1.ext) hq' ok1
  · exact k f _ s2 ⟨e1, e2, rfl, rfl⟩ ⟨rfl, rfl, rfl, ctv, code, pm, doc, rfl⟩ F2 l2 (InK.extN hT (okT s2 (F2.l.ok F2.ok)) hik F.d.ob l2.ext)
end
end Mine
end
section
open PySem PySem.W PySem.W.X PyProof.Rows PySem.Calls
set_option Elab.async false
set_option maxRecDepth 100000
set_option maxHeartbeats 1000000
namespace Mine
section
variable {prog : Program} {w : World} {A : Around} {E : Value → Shared → Prop} {h : Heap} {g : Array GenState} {d : Drawn} {t : Nat} {os : OsState} {C N : Addr} {k : KSl}
theorem kObj_exc (C N : Addr) (k : KSl) : kObj C N k = excClassObj "K" nameK C N [.type "object"] [.type "object"] false ["obj"] [] false none none (some (.ref k.bT)) none (some (.str "K" k.tk)) (some (.str nameK k.tq)) (some (.bool false)) "object.__new__" := rfl
theorem k_chk {rest : List Value} {Q : Unit → Shared → Prop} (hC : h.get? C = some (kObj C N k)) (hq : Q () ⟨h, g, d, t, os⟩) :
    wpAny (model prog w) A (checkBuiltinCall "object.__new__" ⟨.ref C :: rest, []⟩) Q E ⟨h, g, d, t, os⟩ := by
  rw [kObj_exc] at hC
  have hcont : (Value.ref C :: [Value.type "object"]).contains (.type "object") = true := by rw [List.contains_cons, show [Value.type "object"].contains (.type "object") = true from by decide, Bool.or_true]
  simp only [checkBuiltinCall, PySem.F.objNew.kind, PySem.F.objNew.split, PySem.F.objNew.row]
  repeat (first | refine wpAny_loadPart_at hC ?_ | (refine wpAny_isSubtype_exc hC ?_; rw [hcont]) | refine wpAny_staticBase_exc hC ?_ | refine wpAny_madeBy_exc hC ?_ | simp only [bne_self_eq_false, Bool.false_eq_true, if_false] | wp_step)
  exact hq
theorem k_new {R : Result → Shared → Prop} {m : Str → Option Value} {v : Value} {fI : Addr} (hC : h.get? C = some (kObj C N k)) (hn : h.Ns N m) (hi : m "__init__" = some (.ref fI))
    (hq : R (.ok (.ret (.ref (h.objs.size + 1)))) ⟨(h.push { cls := .type "dict", data := .dict #[] }).push { cls := .ref C, dict := some h.objs.size, data := .plain }, g, d, t, os⟩) :
    codeAny (model prog w) A (.builtin "object.__new__" ⟨.ref C :: [v], []⟩) R ⟨h, g, d, t, os⟩ := by
  rw [kObj_exc] at hC
  have hmro : mroOf (.type "object") = pure [.type "object"] := by kernel_rfl
  have hlk : typeLookup (.type "object") "__init__" = pure (some (.builtin "object.__init__")) := by rw [typeLookup_type, builtinLookup_eq_fast]; kernel_rfl
  have hne : (some (Value.ref fI) != some (Value.builtin "object.__init__")) = true := rfl
  have hsame : (some "object.__new__" != some "object.__new__") = false := bne_self_eq_false _
  refine codeAny_builtin PySem.F.objNew.entry ?_
  unfold Builtin.«object.__new__»
  repeat (first | with_reducible refine wpAny_madeHere_exc PySem.F.objNew.canon hC ?_ | (with_reducible refine wpAny_madeBy_exc hC ?_; simp only [hsame]) | with_reducible refine wpAny_loadPart_at hC ?_ | (with_reducible refine wpAny_typeLookup_exc hC hn hmro hlk ?_; rw [hi]; simp only [hne]) | wp_step)
  show wpAny _ _ (alloc { cls := .type "dict", data := .dict #[] } >>= fun x => pure (some x)) _ _ _
  refine wpAny_bind (wpAny_alloc' (wpAny_pure ?_))
  unfold newObj newObjAsIs
  repeat (first | with_reducible refine wpAny_loadPart_at (Heap.get?_push_of_some _ (Heap.get?_push_of_some _ hC)) ?_ | wp_step)
  show R _ _
  rw [Heap.size_push]
  exact hq
noncomputable abbrev kMadeH (h : Heap) (C : Addr) : Heap := (h.push { cls := .type "dict", data := .dict #[] }).push { cls := .ref C, dict := some h.objs.size, data := .plain }
theorem k_type_call {m : Str → Option Value} {v : Value} {fI : Addr} {oI : Obj} {Q : PySem.Fin → Shared → Prop} (hC : h.get? C = some (kObj C N k)) (hn : h.Ns N m) (hi : m "__init__" = some (.ref fI)) (hfI : h.get? fI = some oI) (hfc : oI.cls = .type "function")
    (hq : wpAny (model prog w) A (call (.ref fI) [.ref (h.objs.size + 1), v]) (fun r s' => r = .none ∧ Q (.done (.ret (.ref (h.objs.size + 1)))) s') E ⟨kMadeH h C, g, d, t, os⟩) :
    wpAny (model prog w) A (Builtin.«type.__call__» ⟨[.ref C, v], []⟩) Q E ⟨h, g, d, t, os⟩ := by
  have hC' := hC
  rw [kObj_exc] at hC
  have hmro : mroOf (.type "object") = pure [.type "object"] := by kernel_rfl
  have hlk : typeLookup (.type "object") "__init__" = pure (some (.builtin "object.__init__")) := by rw [typeLookup_type, builtinLookup_eq_fast]; kernel_rfl
  repeat (first | with_reducible refine wpAny_loadPart_at hC ?_ | with_reducible refine wpAny_madeBy_exc hC ?_ | wp_step)
  refine codeAny_call_builtin_code (Code.quiet_builtin _ PySem.F.objNew.quiet) (k_chk hC' ?_)
  refine k_new hC' hn hi ?_
  show wpAny _ _ _ _ _ _
  have up : ∀ b o, h.get? b = some o → (kMadeH h C).get? b = some o := fun b o e => Heap.get?_push_of_some _ (Heap.get?_push_of_some _ e)
  have hC₁ := up _ _ hC
  have hn₁ := hn.keeps up
  have hget : (kMadeH h C).get? (h.objs.size + 1) = some { cls := .ref C, dict := some h.objs.size, data := .plain } := Heap.get?_push_at (by rw [Heap.size_push]) rfl
  have hcC : (Value.ref C :: [Value.type "object"]).contains (.ref C) = true := by simp
  unfold isInstance
  repeat (first | with_reducible refine wpAny_loadPart_at hget ?_ | (with_reducible refine wpAny_isSubtype_exc hC₁ ?_; rw [hcC]) | wp_step)
  show wpAny _ _ (typeLookup (.ref C) _) _ _ _
  refine wpAny_typeLookup_exc hC₁ hn₁ hmro hlk ?_
  rw [hi]
  refine wpAny_holding (wpAny_bind ?_)
  unfold bindSpecial
  refine wpAny_bind (wpAny_typeOf (T := "function") ⟨_, up _ _ hfI, hfc⟩ ?_)
  rw [if_pos (by decide)]
  refine wpAny_pure (wpAny_bind (wpAny_mono hq (fun r s' hr => ?_) fun _ _ x => x))
  obtain ⟨rfl, hQ⟩ := hr
  wp_walk
  exact hQ
theorem k_call {m : Str → Option Value} {v : Value} {fI : Addr} {oI : Obj} {Q : Value → Shared → Prop} (hC : h.get? C = some (kObj C N k)) (hn : h.Ns N m) (hi : m "__init__" = some (.ref fI)) (hfI : h.get? fI = some oI) (hfc : oI.cls = .type "function")
    (hq : wpAny (model prog w) (A.under (.builtin "type.__call__" ⟨[.ref C, v], []⟩)) (call (.ref fI) [.ref (h.objs.size + 1), v]) (fun r s' => r = .none ∧ Q (.ref (h.objs.size + 1)) s') E ⟨kMadeH h C, g, d, t, os⟩) :
    wpAny (model prog w) A (call (.ref C) [v]) Q E ⟨h, g, d, t, os⟩ := by
  have f1 := tc_lookup
  have f2 := tc_bind (.ref C)
  have hT : (⟨h, g, d, t, os⟩ : Shared).TypeIs (.ref C) "type" := ⟨_, hC, rfl⟩
  refine wpAny_call (codeAny_of_tree ?_)
  show wpAny _ _ (callAny (.ref C) _) _ _ _
  repeat (any_goals (first | assumption | with_reducible refine wpAny_loadPart_at hC ?_ | wp_step))
  refine ⟨rfl, ?_⟩
  have hC2 := hC
  rw [kObj_exc] at hC2
  exact codeAny_call_builtin_at (Code.quiet_builtin _ (by decide +kernel)) entry_typeCall (wpAny_check_type_call_sub hC2 (k_type_call hC hn hi hfI hfc hq))
end
end Mine
end
section
open PySem PySem.W PySem.W.X PyProof.Rows PySem.Calls
set_option Elab.async false
set_option maxRecDepth 100000
namespace Mine
variable {κ : Cx} {h : Heap}
noncomputable def dNo : DefRec := ⟨"", ⟨[], [], none, [], [], none, []⟩, [], { kind := .function, names := [], isGenerator := false, isCoroutine := false }, ⟨0, 0, 0, 0⟩⟩
noncomputable def dAt (i : Nat) : DefRec := ((recsOf PySem.Challenge.pw_oy0029_01)[i]?).getD dNo
noncomputable def fAt (i : Nat) (pm cd doc : Value) : FuncData := docDef (dAt i).name (dAt i).params (dAt i).body (dAt i).scope pm cd doc

theorem lit257 : (("257" : Str)) = tx [50, 53, 55] := by decide +kernel
theorem litSpMark : ((" \"" : Str)) = tx [32, 34] := by decide +kernel
theorem litMark : (("\"" : Str)) = tx [34] := by decide +kernel
theorem litNo : (("" : Str)) = tx [] := by decide +kernel
theorem told_pair (r : List Nat) : told (34 :: 34 :: r) = 34 :: told r := by rw [told, if_pos rfl]
theorem told_other {c : Nat} (r : List Nat) (h : c ≠ 34) : told (c :: r) = c :: told r := by
  cases r with
  | nil => simp [told, h]
  | cons d r =>
    by_cases hd : d = 34
    · subst hd; rw [told, if_neg h]
    · rw [told, if_neg h]; intro r' e; cases e; exact hd rfl
theorem told_end (r : List Nat) (h : r.head? ≠ some 34) : told (34 :: r) = [] := by
  cases r with
  | nil => rw [told, if_pos rfl]; intro r' e; cases e
  | cons d r => rw [told, if_pos rfl]; intro r' e; cases e; exact h rfl
theorem told_le : ∀ (m : Nat) (l : List Nat), l.length ≤ m → (told l).length ≤ l.length
  | _, [], _ => by simp [told]
  | 0, _ :: _, h => by simp at h
  | m + 1, c :: r, h => by
    by_cases hc : c = 34
    · subst hc
      cases r with
      | nil => rw [told_end _ (by simp)]; simp
      | cons d r' =>
        by_cases hd : d = 34
        · subst hd; rw [told_pair]; have := told_le m r' (by simp at h; omega); simp; omega
        · rw [told_end _ (by simpa using hd)]; simp
    · rw [told_other r hc]; have := told_le m r (by simpa using h); simpa using this

theorem parse_ok {n : Nat} {f : Addr} {pm cd doc : Value} {l : List Nat} (b : Base κ h) (fa : FnAt h f (fAt 1 pm cd doc)) (bl : Blt κ "len" (.builtin "len")) (hz : l.length + 5 ≤ sizeLine) :
    Fun κ (n + 1) h (.ref f) (Iss [.str (tx (50 :: 53 :: 55 :: 32 :: 34 :: l))]) (Is (.str (tx (told l)))) := by
  refine fun_data (xs := ["resp"]) (body := (dAt 1).body) b fa rfl rfl rfl rfl rfl rfl rfl ?_ nd1 ?_ fun V s₀ y => ?_
  · intro vs hv
    obtain ⟨v, rfl⟩ := List.length_eq_one_iff.mp hv
    rfl
  · intro x hx L
    simp only [List.mem_cons, List.not_mem_nil, or_false] at hx
    subst hx
    rfl
  have hz1 : (tx (50 :: 53 :: 55 :: 32 :: 34 :: l)).length ≤ sizeLine := by rw [tx_length]; simpa using hz
  refine ex_skip (fun h' k F => evb_ne_str (ev_cut_ns (ev_loc F rfl) ev_int hz1) ev_str ?_) ?_
  · rw [lit257]
    have := slice_to (50 :: 53 :: 55 :: 32 :: 34 :: l) 3
    rw [show (3 : Int) = ((3 : Nat) : Int) from rfl, this]
    simp
  refine ex_skip (fun h' k F => evb_ne_str (ev_cut_ss (ev_loc F rfl) ev_int ev_int hz1) ev_str ?_) ?_
  · rw [litSpMark]
    have := slice_mid (50 :: 53 :: 55 :: 32 :: 34 :: l) 3 5 (by omega) (by simp)
    rw [show (3 : Int) = ((3 : Nat) : Int) from rfl, show (5 : Int) = ((5 : Nat) : Int) from rfl, this]
    simp
  refine ex_assign' (fun h' k F => ev_str) ?_
  refine ex_assign' (fun h' k F => ev_int) ?_
  refine ex_assign' (fun h' k F => ev_call_b (F.blt bl) (evl_one (ev_loc F rfl) Is.per) (fun_len_str hz1)) ?_
  generalize hall : (50 :: 53 :: 55 :: 32 :: 34 :: l) = all at hz1 ⊢
  have hlen : all.length = l.length + 5 := by rw [← hall]; simp
  have htl : (told l).length ≤ sizeLine := by have := told_le _ l (Nat.le_refl _); omega
  refine ex_while (σ := Nat × List Nat) (δ' := [("dirname", .str (tx (told l)))])
    (fun a => [("i", .int a.1), ("dirname", .str (tx a.2)), ("n", .int all.length), ("resp", .str (tx all))]) (fun a => all.length - a.1) (fun a => decide (a.1 < all.length))
    (fun a => a.1 ≤ all.length ∧ a.2 ++ told (all.drop a.1) = told l) (5, []) ⟨by omega, by rw [← hall]; rfl⟩ ?_ ?_ ?_ ?_ ?_
  · rintro ⟨i, acc⟩ ⟨hi, ha⟩ h' k F
    exact evb_lt_int (ev_loc F rfl) (ev_loc F rfl) (by simp)
  · rintro ⟨i, acc⟩ ⟨hi, ha⟩ ht
    have hi' : i < all.length := by simpa using ht
    dsimp only at ha ⊢
    refine Classical.byContradiction fun nay => ?_
    obtain ⟨c, r, hc⟩ : ∃ c r, all.drop i = c :: r := ⟨_, _, List.drop_eq_getElem_cons hi'⟩
    refine nay ?_
    clear nay
    have hci : all[i]? = some c := by
      have := List.head?_drop (l := all) (i := i)
      rw [hc] at this; simpa using this.symm
    have hr : all.drop (i + 1) = r := by rw [← List.drop_drop, hc]; rfl
    have hri : all[i + 1]? = r.head? := by rw [← hr, List.head?_drop]
    rw [hc] at ha
    refine ex_assign' (fun h' k F => ev_char (k := i) (c := c) (ev_loc F rfl) (ev_loc F rfl) hz1 (by rw [tx_get]; exact hci)) ?_
    refine ex_assign' (fun h' k F => ev_add_int (ev_loc F rfl) ev_int) ?_
    have hzc : acc ++ told (c :: r) = told l → ∀ d t, told (c :: r) = d :: t → (tx acc).length + (tx [d]).length ≤ sizeLine := fun e d t e' => by
      have := congrArg List.length e
      rw [e'] at this
      simp only [List.length_append, List.length_cons] at this
      rw [tx_length, tx_length, List.length_singleton]; omega
    by_cases h34 : c = 34
    · subst h34
      have hmark : (tx [34] == (("\"" : Str))) = true := by rw [litMark]; simp
      by_cases hd : r.head? = some 34
      · obtain ⟨r', rfl⟩ : ∃ r', r = 34 :: r' := by cases r with
          | nil => simp at hd
          | cons d r' => simp at hd; exact ⟨r', by rw [hd]⟩
        have hlt : i + 1 < all.length := by
          rcases Nat.lt_or_ge (i + 1) all.length with q | q
          · exact q
          · rw [List.drop_of_length_le q] at hr; cases hr
        have hr2 : all.drop (i + 1 + 1) = r' := by rw [← List.drop_drop, hr]; rfl
        refine ex_if' (b := true) (δ' := [("i", .int ((i : Int) + 1 + 1)), ("c", .str (tx [34])), ("dirname", .str (tx acc)), ("n", .int all.length), ("resp", .str (tx all))]) (fun h' k F => evb_eq_str (ev_loc F rfl) ev_str hmark) ?_ ?_
        · rw [if_pos rfl]
          refine ex_skip (fun h' k F => evb_or (a := false) (b := false) (evb_ge_int (ev_loc F rfl) (ev_loc F rfl) (by simp; omega)) fun _ => evb_ne_str (ev_char (k := i + 1) (c := 34) (ev_loc F rfl) (ev_loc F rfl) hz1 (by rw [tx_get, hri]; rfl)) ev_str (by rw [litMark]; rfl)) ?_
          refine ex_assign' (fun h' k F => ev_add_int (ev_loc F rfl) ev_int) ?_
          exact ex_nil fun s F => F.weak ⟨rfl, rfl, rfl, rfl, rfl, trivial⟩
        · refine ex_assign' (fun h' k F => ev_add_str (ev_loc F rfl) (ev_loc F rfl) (hzc ha _ _ (told_pair r'))) ?_
          refine ex_nil fun s F => ⟨(i + 1 + 1, acc ++ [34]), ⟨by omega, by rw [hr2, ← ha, told_pair]; simp⟩, by show all.length - (i + 1 + 1) < all.length - i; omega, F.weak ⟨rfl, ?_, rfl, rfl, trivial⟩⟩
          rw [← tx_add]; rfl
      · rw [told_end r hd, List.append_nil] at ha
        refine ex_take (fun h' k F => evb_eq_str (ev_loc F rfl) ev_str hmark) ?_
        refine ex_take (fun h' k F => ?_) (ex_break fun s F => F.weak ⟨by rw [← ha]; rfl, trivial⟩)
        rcases Nat.lt_or_ge (i + 1) all.length with q | q
        · have hx : all[i + 1]? = some (all[i + 1]) := List.getElem?_eq_getElem q
          refine evb_or (a := false) (b := true) (evb_ge_int (ev_loc F rfl) (ev_loc F rfl) (by simp; omega)) fun _ => evb_ne_str (ev_char (k := i + 1) (c := all[i + 1]) (ev_loc F rfl) (ev_loc F rfl) hz1 (by rw [tx_get]; exact hx)) ev_str ?_
          rw [litMark]
          show (tx [all[i + 1]] != tx [34]) = true
          rw [bne, tx_beq]
          rw [hri] at hx
          simp only [Bool.not_eq_true', beq_eq_false_iff_ne, ne_eq, List.cons.injEq, and_true]
          exact fun e => hd (by rw [hx, e])
        · exact evb_or (a := true) (b := true) (evb_ge_int (ev_loc F rfl) (ev_loc F rfl) (by simp; omega)) fun e => by cases e
    · refine ex_skip (fun h' k F => evb_eq_str (ev_loc F rfl) ev_str ?_) ?_
      · rw [litMark]
        show (tx [c] == tx [34]) = false
        rw [tx_beq]; simpa using h34
      refine ex_assign' (fun h' k F => ev_add_str (ev_loc F rfl) (ev_loc F rfl) (hzc ha _ _ (told_other r h34))) ?_
      rw [told_other r h34] at ha
      refine ex_nil fun s F => ⟨(i + 1, acc ++ [c]), ⟨by omega, by rw [hr, ← ha]; simp⟩, by show all.length - (i + 1) < all.length - i; omega, F.weak ⟨rfl, ?_, rfl, rfl, trivial⟩⟩
      rw [← tx_add]; rfl
  · rintro ⟨i, acc⟩ ⟨hi, ha⟩ ht
    have hi' : all.length ≤ i := by simpa using ht
    refine ⟨?_, trivial⟩
    dsimp only at ha
    rw [List.drop_of_length_le hi', told, List.append_nil] at ha
    rw [← ha]; rfl
  · exact ⟨rfl, by rw [litNo]; rfl, by rw [tx_length]; rfl, rfl, trivial⟩
  · exact ex_ret' (fun h' k F => ev_loc F rfl) fun v s' p l => ret_ok p l
end Mine
end
section
open PySem PySem.W PySem.W.X PyProof.Rows PySem.Calls
set_option Elab.async false
set_option maxRecDepth 100000
namespace Mine
variable {κ : Cx} {h : Heap}
theorem litQuote : (("'" : Str)) = tx [39] := by decide +kernel
theorem litQuotes : (("''" : Str)) = tx [39, 39] := by decide +kernel
theorem litFive : (("'\"'\"'" : Str)) = tx [39, 34, 39, 34, 39] := by decide +kernel
noncomputable def quo (uns : Nat → Bool) (l : List Nat) : List Nat := if l = [] then [39, 39] else if l.any uns then 39 :: (sub1 39 [39, 34, 39, 34, 39] l ++ [39]) else l
theorem unsf_tx {uns : Nat → Bool} {l : List Nat} : Unsf uns (tx l) = l.any uns := by unfold Unsf tx; simp
theorem sub1_le (c : Nat) (z : List Nat) (hz : 1 ≤ z.length) : ∀ l : List Nat, (sub1 c z l).length ≤ z.length * l.length
  | [] => by simp [sub1]
  | a :: l => by
    have := sub1_le c z hz l
    rw [sub1_cons, List.length_append, List.length_cons, Nat.mul_add, Nat.mul_one]
    split
    · omega
    · simp; omega
theorem quote_body {n : Nat} {f S : Addr} {pm cd doc : Value} {l : List Nat} {code : Array Nat} {uns : Nat → Bool} (gs : κ.mg "_find_unsafe" = some (.ref S)) (hs : SrchAt h S code) (H : SetCode code uns) (hz : 7 * l.length + 7 ≤ sizeLine) (V : Addr → Prop) (s₀ : Shared) :
    Ex κ n h V s₀ (callEnvC (fAt 3 pm cd doc) s₀.heap.objs.size f) [("s", .str (tx l))] (dAt 3).body (rt κ V s₀ (Is (.str (tx (quo uns l))))) := by
  have hz0 : (tx l).length ≤ sizeLine := by rw [tx_length]; omega
  unfold quo
  by_cases hl : l = []
  · subst hl
    refine ex_take (fun h' k F => evb_not (b := false) (evb_str (ev_loc F rfl) hz0)) ?_
    exact ex_ret' (fun h' k F => ev_str) fun v s' p l => ret_ok (by rw [litQuotes] at p; simpa using p) l
  have hpos : 0 < l.length := List.length_pos_iff.mpr hl
  have hne : (((tx l).length : Int) != 0) = true := by rw [tx_length]; simpa using hl
  rw [if_neg hl]
  refine ex_skip (fun h' k F => ?_) ?_
  · exact evb_not (b := true) (hne ▸ evb_str (ev_loc F rfl) hz0)
  cases hu : l.any uns with
  | false =>
    refine ex_take (fun h' k F => evb_is_none (ev_call_m (F.glob gs) (hs.ext k) (evl_one (ev_loc F rfl) Is.per) (fun_search H (hs.ext k) (by rw [tx_length]; exact hpos) hz0)) srch_per fun V v h' p => ?_) ?_
    · rw [srch_none V v h' p, unsf_tx, hu]; rfl
    · exact ex_ret' (fun h' k F => ev_loc F rfl) fun v s' p l => ret_ok (by simpa using p) l
  | true =>
    refine ex_skip (fun h' k F => evb_is_none (ev_call_m (F.glob gs) (hs.ext k) (evl_one (ev_loc F rfl) Is.per) (fun_search H (hs.ext k) (by rw [tx_length]; exact hpos) hz0)) srch_per fun V v h' p => ?_) ?_
    · rw [srch_none V v h' p, unsf_tx, hu]; rfl
    have hsub := sub1_le 39 [39, 34, 39, 34, 39] (by simp) l
    have e : (("'" : Str)) ++ Txt.replace (tx l) ("'" : Str) ("'\"'\"'" : Str) ++ ("'" : Str) = tx (39 :: (sub1 39 [39, 34, 39, 34, 39] l ++ [39])) := by
      rw [litQuote, litFive, show tx [39] = ⟨#[39]⟩ from rfl, replace_tx, show (⟨#[39]⟩ : Str) = tx [39] from rfl, tx_add, tx_add]; simp
    have hsz : sizeLine = 16777216 := rfl
    simp only [List.length_cons, List.length_nil] at hsub
    refine ex_ret' (fun h' k F => ev_add_str (ev_add_str ev_str (ev_replace (ev_loc F rfl) ?_ ?_) ?_) ev_str ?_) fun v s' p l => ret_ok (by rw [e] at p; simpa using p) l
    · rw [litQuote, litFive, tx_beq]; rfl
    · rw [litFive, tx_length, tx_length]; simp only [List.length_cons, List.length_nil]; omega
    · rw [litQuote, litFive, show tx [39] = ⟨#[39]⟩ from rfl, replace_tx, show (⟨#[39]⟩ : Str) = tx [39] from rfl, tx_length, tx_length]; simp only [List.length_cons, List.length_nil]; omega
    · rw [litQuote, litFive, show tx [39] = ⟨#[39]⟩ from rfl, replace_tx, show (⟨#[39]⟩ : Str) = tx [39] from rfl, tx_add, tx_length, tx_length, List.length_append]; simp only [List.length_cons, List.length_nil]; omega
theorem quote_ok {n : Nat} {f S : Addr} {pm cd doc : Value} {l : List Nat} {code : Array Nat} {uns : Nat → Bool} (b : Base κ h) (fa : FnAt h f (fAt 3 pm cd doc)) (gs : κ.mg "_find_unsafe" = some (.ref S)) (hs : SrchAt h S code) (H : SetCode code uns) (hz : 7 * l.length + 7 ≤ sizeLine) :
    Fun κ (n + 1) h (.ref f) (Iss [.str (tx l)]) (Is (.str (tx (quo uns l)))) := by
  refine fun_data (xs := ["s"]) (body := (dAt 3).body) b fa rfl rfl rfl rfl rfl rfl rfl ?_ nd1 ?_ fun V s₀ y => quote_body gs hs H hz V s₀
  · intro vs hv
    obtain ⟨v, rfl⟩ := List.length_eq_one_iff.mp hv
    rfl
  · intro x hx L
    simp only [List.mem_cons, List.not_mem_nil, or_false] at hx
    subst hx
    rfl
end Mine
end
section
open PySem PySem.W PySem.W.X PyProof.Rows PySem.Calls
set_option Elab.async false
set_option maxRecDepth 100000
namespace Mine
variable {κ : Cx} {h : Heap} {n : Nat}
/-- a def of the text stands under its name -/
structure Df (κ : Cx) (h : Heap) (i : Nat) (name : Str) : Prop where
  ex : ∃ f pm cd doc, κ.mg name = some (.ref f) ∧ FnAt h f (fAt i pm cd doc)
theorem Df.ext {i : Nat} {name : Str} {h' : Heap} (x : Df κ h i name) (k : Ext κ.T h h') : Df κ h' i name := by obtain ⟨f, pm, cd, doc, g, a⟩ := x.ex; exact ⟨f, pm, cd, doc, g, a.ext k⟩
/-- a call of it -/
theorem ev_df {env : Env} {δ : Del} {i : Nat} {name : Str} {p pos : Pos} {e : Expr} {es : List Expr} {Pa : (Addr → Prop) → List Value → Heap → Prop} {P : Pr} (F : Fd κ h env δ) (d : Df κ h i name) (b : EvL κ n env h (e :: es) Pa)
    (c : ∀ f pm cd doc, FnAt h f (fAt i pm cd doc) → Fun κ n h (.ref f) Pa P) (hk : env.kindOf name = some .globalImplicit := by rfl)
    (he : ∀ pos, backTo pos (starEach (e :: es) env) = (false, eval e env) :: backTo pos (starEach es env) := by intro _; rfl) (hb : (name == ("__debug__" : Str)) = false := by decide) : Ev κ n env h (.Call (.Name name p) (e :: es) [] pos) P := by
  refine Classical.byContradiction fun nay => ?_
  obtain ⟨f, pm, cd, doc, g, a⟩ := d.ex
  obtain ⟨o, ho, hd⟩ := a.at_
  refine nay ?_
  clear nay
  exact ev_call_f (F.glob g hk) ho hd b (c f pm cd doc a) he hb
theorem evl_d {env : Env} {e : Expr} {d : Da} (a : Ev κ n env h e (Is d)) (he : ∀ pos, backTo pos (starEach [e] env) = (false, eval e env) :: backTo pos (starEach [] env) := by intro _; rfl) : EvL κ n env h [e] (Iss [d]) := evl_is a evl_is_nil he
end Mine
end
section
open PySem PySem.W PySem.W.X PyProof.Rows PySem.Calls
set_option Elab.async false
set_option maxRecDepth 100000
namespace Mine
variable {κ : Cx} {h : Heap} {n : Nat} {env : Env} {s s₀ : Shared} {V : Addr → Prop} {δ δ' : Del} {A : Around}
/-- a store of any value -/
theorem as_val {x : Str} {p pos : Pos} {e : Expr} {P : Value → Shared → Prop} {rest : List Stmt} {Q : Flow → Shared → Prop} (F : Fr κ h V s₀ env δ s) (a : wpAny κ.M A (eval e env) (fun v s1 => P v s1 ∧ Lt κ.T NoX s s1) (fun _ _ => False) s)
    (k : ∀ v s1 s2, P v s1 → Lt κ.T NoX s s1 → Fr κ h V s₀ env ((x, .val v) :: δ) s2 → ExtB κ.T (Loc env) s1.heap s2.heap → (∀ b, Loc env b → ∃ o, s1.heap.get? b = some o ∧ (∀ vs, o.data ≠ .fields vs) ∧ (Held o → False)) → wpAny κ.M A (execs rest env) Q (fun _ _ => False) s2)
    (hl : (env.kindOf x == some .local || (env.kindOf x == some .cell && (env.cells.lookup x).isSome)) = true := by rfl) (hsw : swapsWith e (some (.Name x p)) pos.line env = pure false := by rfl) : wpAny κ.M A (execs (.Assign [.Name x p] e pos :: rest) env) Q (fun _ _ => False) s := by
  have hl' : env.kindOf x = some .local ∨ (env.kindOf x = some .cell ∧ (env.cells.lookup x).isSome = true) := by simpa using hl
  obtain ⟨ρ, G, H⟩ := F.ex
  refine wpAny_execs_cons (wpAny_Assign_Name (wpAny_mono (wpAny_toks_of G.tk a) (fun v s1 q => ?_) fun _ _ f => f.2.elim) hsw)
  obtain ⟨tk1, pv, l1⟩ := q
  have F1 := G.on l1 tk1
  refine F1.store hl' fun s2 F2 k2 e2 => ?_
  refine k v s1 s2 pv l1 ⟨_, F2, fun y u e => ?_⟩ e2 F1.locAt
  rw [List.lookup_cons] at e
  unfold put
  by_cases hy : (y == x) = true
  · rw [hy] at e
    rw [if_pos (by simpa using hy)]
    cases e
    exact ⟨v, rfl, .val _⟩
  · simp only [hy] at e
    rw [if_neg (by simpa using hy)]
    obtain ⟨w, p1, p2⟩ := H y u e
    exact ⟨w, p1, (p2.kv (Ext.kv l1.ext)).kv k2⟩
noncomputable def rD : DefRec := match (PySem.Challenge.pw_oy0029_01).theDef "reduce" with
  | some (a, b, sc) => ⟨"reduce", a, b, sc, ⟨0, 0, 0, 0⟩⟩
  | none => dNo
noncomputable def fR (dt pm cd doc : Value) : FuncData := { docDef rD.name rD.params rD.body rD.scope pm cd doc with defaults := dt }
theorem Fd.vr {x : Str} {v : Value} (F : Fd κ h env δ) (hx : δ.lookup x = some (.val v)) (hl : liesB env x = true := by rfl) : Vr κ h env x v := by
  obtain ⟨ρ, a, b⟩ := F.ex
  obtain ⟨w, p, q⟩ := b x _ hx
  cases q
  exact vr_of a p (lies_of hl)
noncomputable def IsFn (h : Heap) (fa : Addr) : Prop := ∃ o fd, h.get? fa = some o ∧ o.data = .func fd
theorem IsFn.ext {T : Tb} {h' : Heap} {fa : Addr} (x : IsFn h fa) (k : Ext T h h') : IsFn h' fa := by obtain ⟨o, fd, e, d⟩ := x; exact ⟨o, fd, Ext.get_data k e (by intro vs z; rw [d] at z; cases z), d⟩
/-- a list's iterator -/
noncomputable def Li (ds : List Da) : Pr := fun V v h' => ∃ I ax items, v = .ref I ∧ h'.IsListIter I ax 0 ∧ h'.PlainList ax items ∧ Dns V h' items.toList ds
/-- one that is new -/
theorem iter_ok {e : Expr} {p pos : Pos} {ds : List Da} (rm : Rm n A) (y : At κ h V s) (F : Fd κ h env δ) (bi : Blt κ "iter" (.builtin "iter")) (a : Ev κ n env h e (Is (.list ds))) (hk : env.kindOf "iter" = some .globalImplicit := by rfl)
    (he : ∀ pos, backTo pos (starEach [e] env) = (false, eval e env) :: backTo pos (starEach [] env) := by intro _; rfl) (hp : ∀ pos, (backTo pos (starEach [e] env)).any (·.1) = false := by intro _; rfl) :
    wpAny κ.M A (eval (.Call (.Name "iter" p) [e] [] pos) env) (fun v s1 => (∃ I, v = .ref I ∧ s.heap.get? I = none ∧ Li ds V v s1.heap) ∧ Lt κ.T NoX s s1) (fun _ _ => False) s := by
  refine wpAny_Call_NameR (wpAny_Name (F.blt bi hk A _ _ s y.ext ?_) (by decide))
  refine callWith_builtin (hp pos) ?_
  have z := fun Q k => (evl_one a Is.per he).go (A := A) (s := s) (V := V) (Q := Q) (E := fun _ _ => False) pos rm y k
  rw [he] at z ⊢
  refine evalArgs_plain (z _ fun vs s1 pv l y1 => ?_)
  obtain ⟨v, rfl, pv⟩ := pv
  cases pv with
  | @list ax items _ va pl r =>
    refine call_iter (wpAny_pyIter_list pl.isList ⟨⟨_, rfl, Ext.back l.ext (get_none_of_size (Nat.le_refl _)), _, ax, items, rfl, ⟨_, Heap.get?_push_size _ rfl, rfl, rfl⟩, ?_, ?_⟩, l.trans .newObj⟩)
    · exact (Ext.kv (V := Tr) (T := κ.T) (ExtB.push _)).plain trivial pl
    · exact r.kv (Ext.kv (T := κ.T) (ExtB.push _))
/-- the iterator through what the frame does -/
theorem li_keep {h1 h2 : Heap} {I ax : Addr} {j : Nat} {items : Array Value} {ds : List Da} (e : ExtB κ.T (Loc env) h1 h2) (lo : ∀ b, Loc env b → ∃ o, h1.get? b = some o ∧ (∀ vs, o.data ≠ .fields vs) ∧ (Held o → False))
    (a : h1.IsListIter I ax j) (b : h1.PlainList ax items) (c : Dns V h1 items.toList ds) : h2.IsListIter I ax j ∧ h2.PlainList ax items ∧ Dns V h2 items.toList ds := by
  have nq : ∀ b o, h1.get? b = some o → Held o → ¬ Loc env b := fun b o e d lb => by
    obtain ⟨o', e', _, n2⟩ := lo b lb
    rw [e] at e'; cases e'; exact n2 d
  refine ⟨?_, ?_, ?_⟩
  · obtain ⟨o, eo, co, d⟩ := a
    exact ⟨o, ExtB.get e (fun lb => by obtain ⟨o', e', n1, _⟩ := lo I lb; rw [eo] at e'; cases e'; exact n1 _ d) eo (by rw [co]; exact fun z => by cases z), co, d⟩
  · obtain ⟨q, eo⟩ := b
    exact ⟨q, ExtB.get e (nq _ _ eo (.inl ⟨_, _, rfl⟩)) eo (fun z => by cases z)⟩
  · exact c.kv fun b o _ eb d => ExtB.get_data e (nq b o eb d) eb (fun vs' z => d.ne z rfl)
end Mine
end
section
open PySem PySem.W PySem.W.X PyProof.Rows PySem.Calls
set_option Elab.async false
set_option maxRecDepth 100000
namespace Mine
variable {κ : Cx} {h : Heap} {n : Nat} {s : Shared}
theorem bind2 {M : Model} {dt mi : Addr} {pm cd doc a b : Value} (hd : s.heap.IsTuple dt #[.ref mi]) (A : Around) (Q : List (Str × Value) → Shared → Prop) (E : Value → Shared → Prop)
    (hq : Q [(("function" : Str), a), (("sequence" : Str), b), (("initial" : Str), .ref mi)] s) : wpAny M A (bindArgs (fR (.ref dt) pm cd doc) ⟨[a, b], []⟩) Q E s := by
  refine Classical.byContradiction fun nay => ?_
  obtain ⟨o, ho, hc, q, hdd⟩ := hd
  refine nay ?_
  clear nay
  unfold bindArgs
  refine wpAny_bind (wpAny_of_eq rfl ?_)
  refine wpAny_bind (wpAny_seqItems ho hdd ?_)
  exact wpAny_of_eq rfl hq
theorem reduce2 {f dt mi fa : Addr} {pm cd doc : Value} {ds : List Da} {fold : Nat → Da} (b : Base κ h) (ff : FnAt h f (fR (.ref dt) pm cd doc)) (hdt : h.IsTuple dt #[.ref mi]) (gm : κ.mg "_initial_missing" = some (.ref mi)) (bi : Blt κ "iter" (.builtin "iter")) (bn : Blt κ "next" (.builtin "next"))
    (hfn : IsFn h fa) (h0 : ds[0]? = some (fold 1)) (step : ∀ i d, 1 ≤ i → ds[i]? = some d → Fun κ n h (.ref fa) (Iss [fold i, d]) (Is (fold (i + 1)))) :
    Fun κ (n + 1) h (.ref f) (Iss [.val (.ref fa), .list ds]) (Is (fold ds.length)) := by
  have hlen : 1 ≤ ds.length := (List.getElem?_eq_some_iff.mp h0).1
  refine fun_dataW (xs := ["function", "sequence", "initial"]) (es := [.val (.ref fa), .list ds, .val (.ref mi)]) (body := rD.body) b ff rfl rfl rfl rfl rfl rfl rfl ?_ (nd3 rfl rfl rfl) ?_ fun V s₀ y A s rm F => ?_
  · intro V s₀ vs y pa
    refine Classical.byContradiction fun nay => ?_
    cases pa with | cons pa pb =>
    cases pb with | cons pb pn =>
    cases pn
    refine nay ?_
    clear nay
    refine ⟨[_, _, .ref mi], .cons pa (.cons pb (.cons (.val _) .nil)), rfl, fun A Q E hq => bind2 (mi := mi) ?_ A Q E hq⟩
    refine Classical.byContradiction fun nay => ?_
    obtain ⟨o, e, c1, q, d⟩ := hdt
    refine nay ?_
    clear nay
    exact ⟨o, Ext.get_data y.ext e (by intro vs z; rw [d] at z; cases z), c1, q, d⟩
  · intro x hx L
    simp only [List.mem_cons, List.not_mem_nil, or_false] at hx
    rcases hx with rfl | rfl | rfl <;> rfl
  refine as_val F (iter_ok rm F.at F.fd bi (ev_loc F.fd rfl)) fun v s1 s2 P1 l1 F2 e12 lo1 => ?_
  refine Classical.byContradiction fun nay => ?_
  obtain ⟨I, rfl, nI, I', ax, items, hI, li, pl, da⟩ := P1
  cases hI
  obtain ⟨li2, pl2, da2⟩ := li_keep e12 lo1 li pl da
  refine nay ?_
  clear nay
  have lo2 : ∀ b, Loc (callEnvC (fR (.ref dt) pm cd doc) s₀.heap.objs.size f) b → ∃ o, s2.heap.get? b = some o ∧ (∀ vs, o.data ≠ .fields vs) ∧ (Held o → False) := by
    refine Classical.byContradiction fun nay => ?_
    obtain ⟨ρ, G, _⟩ := F2.ex
    refine nay ?_
    clear nay
    exact G.locAt
  refine wpAny_execs_cons (wpAny_If (EvB.go (b := true) (evb_cmp (b' := true) (P2 := Vl (.ref mi)) (ev_loc F2.fd rfl) Is.per (ev_name (F2.fd.glob gm) (fun _ _ => rfl) Vl.per) (fun _ s V a b _ p q => by
    refine Classical.byContradiction fun nay => ?_
    cases p
    cases q
    refine nay ?_
    clear nay
    exact wpAny_is_ref_self ⟨.bool _, .refl s⟩) rfl) rm F2.at fun s3 l3 y3 => ?_))
  rw [if_pos rfl]
  have F3 := F2.on l3 y3.tk
  refine Classical.byContradiction fun nay => ?_
  obtain ⟨li3, pl3, da3⟩ := li_keep (l3.toB (X := Loc (callEnvC (fR (.ref dt) pm cd doc) s₀.heap.objs.size f))).ext lo2 li2 pl2 da2
  refine nay ?_
  clear nay
  refine wpAny_execs_cons (wpAny_Try_except (wpAny_execs_cons (wpAny_Assign_Name ?_ rfl)))
  refine wpost fun Q1 E1 hQ1 _ => ?_
  refine wpAny_Call_NameR (wpAny_Name (F3.fd.blt bn rfl A _ _ s3 F3.at.ext ?_) (by decide))
  refine callWith_builtin rfl ?_
  refine evalArgs_plain (EvL.go (evl_one (ev_loc F3.fd rfl) Is.per) _ rm F3.at fun vs s4 pv l4 y4 => ?_)
  refine Classical.byContradiction fun nay => ?_
  obtain ⟨v, rfl, pv⟩ := pv
  cases pv
  refine nay ?_
  clear nay
  have F4 := F3.on l4 y4.tk
  have lo3 : ∀ b, Loc (callEnvC (fR (.ref dt) pm cd doc) s₀.heap.objs.size f) b → ∃ o, s3.heap.get? b = some o ∧ (∀ vs, o.data ≠ .fields vs) ∧ (Held o → False) := by
    refine Classical.byContradiction fun nay => ?_
    obtain ⟨ρ, G, _⟩ := F3.ex
    refine nay ?_
    clear nay
    exact G.locAt
  refine Classical.byContradiction fun nay => ?_
  obtain ⟨li4, pl4, da4⟩ := li_keep (l4.toB (X := Loc (callEnvC (fR (.ref dt) pm cd doc) s₀.heap.objs.size f))).ext lo3 li3 pl3 da3
  obtain ⟨x0, hx0, dx0⟩ := da4.get h0
  refine nay ?_
  clear nay
  refine call_next_list li4 pl4.isList (by simpa using hx0) fun h5 li5 sb5 => ?_
  refine Classical.byContradiction fun nay => ?_
  obtain ⟨ρ4, G4, H4⟩ := F4.ex
  refine nay ?_
  clear nay
  have hk5 : ∀ b o, b ∉ [I] → s4.heap.get? b = some o → h5.get? b = some o := fun b o hb e => sb5.extBut b o (fun z => hb (by simp [z])) e
  have nlI : ¬ Loc (callEnvC (fR (.ref dt) pm cd doc) s₀.heap.objs.size f) I := fun lb => by
    refine Classical.byContradiction fun nay => ?_
    obtain ⟨o, e, n1, _⟩ := G4.locAt I lb
    obtain ⟨o', e', _, d'⟩ := li4
    refine nay ?_
    clear nay
    rw [e] at e'; cases e'; exact n1 _ d'
  have cm5 : Calm s4.heap h5 := Calm.but (fun b => b ∈ [I]) hk5 fun b o vs hb e _ => by
    rw [List.mem_singleton.mp hb] at e
    refine Classical.byContradiction fun nay => ?_
    obtain ⟨o', e2, c2, _⟩ := li4
    refine nay ?_
    clear nay
    rw [e] at e2; cases e2; rw [c2]
    exact ⟨fun q => (by cases q), by decide⟩
  have kv5 : Kv V s4.heap h5 := fun b o vb eb hd => by
    by_cases hb : b ∈ [I]
    · rw [List.mem_singleton.mp hb] at eb
      refine Classical.byContradiction fun nay => ?_
      obtain ⟨o', e2, _, d2⟩ := li4
      refine nay ?_
      clear nay
      rw [eb] at e2; cases e2; exact (hd.ne d2 rfl).elim
    · exact hk5 b o hb eb
  have G5 := G4.turn hk5 (fun b hb => by rw [List.mem_singleton.mp hb]; exact Ext.back F.lt.ext nI) (fun b hb => by rw [List.mem_singleton.mp hb]; exact nlI) cm5 G4.tk
  refine hQ1 _ _ (G5.store (.inl rfl) fun s6 G6 k6 e6 => ?_)
  clear hQ1
  refine Classical.byContradiction fun no => ?_
  have pl5 : h5.PlainList ax items := by
    obtain ⟨q, e⟩ := pl4
    refine ⟨q, hk5 ax _ (fun hb => ?_) e⟩
    rw [List.mem_singleton.mp hb] at e
    refine Classical.byContradiction fun nay => ?_
    obtain ⟨o', e2, c2, _⟩ := li4
    refine nay ?_
    clear nay
    rw [e] at e2; cases e2
    exact absurd (show Value.type "list" = Value.type "list_iterator" from c2) (by decide)
  refine Classical.byContradiction fun nay => ?_
  obtain ⟨li6, pl6, da6⟩ := li_keep (h1 := h5) e6 G5.locAt li5 pl5 (da4.kv kv5)
  refine nay ?_
  clear nay
  have F6 : Fr κ h V s₀ (callEnvC (fR (.ref dt) pm cd doc) s₀.heap.objs.size f) [("value", fold 1), ("function", .val (.ref fa)), ("it", .val (.ref I))] s6 := by
    refine Fr.weak (δ := ("value", fold 1) :: [("function", .val (.ref fa)), ("it", .val (.ref I))]) ⟨_, G6, fun z u e => ?_⟩ ⟨rfl, rfl, rfl, trivial⟩
    rw [List.lookup_cons] at e
    unfold put
    by_cases hz' : (z == ("value" : Str)) = true
    · rw [hz'] at e
      rw [if_pos (by simpa using hz')]
      refine Classical.byContradiction fun nay => ?_
      cases e
      refine nay ?_
      clear nay
      exact ⟨_, rfl, (dx0.kv kv5).kv k6⟩
    · simp only [hz'] at e
      rw [if_neg (by simpa using hz')]
      refine Classical.byContradiction fun nay => ?_
      obtain ⟨w, p1, p2⟩ := H4 z u (Sub.look (δ' := [("function", .val (.ref fa)), ("it", .val (.ref I))]) ⟨rfl, rfl, trivial⟩ z u e)
      refine nay ?_
      clear nay
      exact ⟨w, p1, (p2.kv kv5).kv k6⟩
  refine no ?_
  clear no
  refine wpAny_execs_nil (wpAny_execs_nil (wpAny_execs_nil ?_))
  refine for_it (j0 := 1) (ds := ds) (δ' := [("value", fold ds.length)]) (fun i => 1 ≤ i) (fun i => [("value", fold i), ("function", .val (.ref fa)), ("it", .val (.ref I))]) rm F6 rfl li6 pl6 da6 (Ext.back F.lt.ext nI) hlen ?_ ?_ (Nat.le_refl _) ?_ ?_
  · intro i d hd hi
    refine ex_assign' (fun h' k F' => ?_) (ex_nil fun s F' => ⟨by omega, F'.weak ⟨rfl, rfl, rfl, trivial⟩⟩)
    refine Classical.byContradiction fun nay => ?_
    obtain ⟨o, fd, eo, dd⟩ := hfn.ext k
    refine nay ?_
    clear nay
    exact ev_call_f (F'.vr rfl) eo dd (evl_is (ev_loc F' rfl) (evl_is (ev_loc F' rfl) evl_is_nil)) ((step i d hi hd).up k)
  · exact fun _ => ⟨rfl, trivial⟩
  · exact ⟨rfl, rfl, rfl, trivial⟩
  · refine ex_ret' (fun h' k F' => ev_loc F' rfl) fun v s' p l => ret_ok p l
end Mine
end
section
open PySem PySem.W PySem.W.X PyProof.Rows PySem.Calls
set_option Elab.async false
set_option maxRecDepth 100000
set_option maxHeartbeats 1000000
namespace Mine
variable {κ : Cx} {h : Heap}
noncomputable def qkOf (l : List (Nat × Str)) (p : Pos) : Str := (l.lookup p.line).getD ""
theorem qkOf_at {l : List (Nat × Str)} {pos : Pos} : ∀ p : Pos, p.line = pos.line → p.col = pos.col → qkOf l p = qkOf l pos := fun p e _ => by unfold qkOf; rw [e]
noncomputable def qk1 : List (Nat × Str) := [(9, "cmp_to_key.<locals>.K.__init__"), (12, "cmp_to_key.<locals>.K.__lt__"), (15, "cmp_to_key.<locals>.K.__gt__"), (18, "cmp_to_key.<locals>.K.__eq__"), (21, "cmp_to_key.<locals>.K.__le__"), (24, "cmp_to_key.<locals>.K.__ge__")]
/-- what cmp_to_key asks of the top -/
structure CmpTop (κ : Cx) (t : Tx) (h : Heap) : Prop where
  bm : Bm κ h
  pk : NoPack h
  n0 : ∃ x o, t.n0 = x + 1 ∧ h.get? x = some o
  sm : sysModules < t.n0
  mo : κ.mg "object" = none
  bo : κ.mb "object" = some (.type "object")
  bc : κ.mb "__build_class__" = some (.builtin "__build_class__")
  nm : ∃ nm tn, κ.mg "__name__" = some (.str nm tn)
theorem one_of {b : FuncBody} {e : Expr} {p : Pos} (h : b = .stmts [.Return (some e) p]) : OneE b e := h ▸ .ret e p
noncomputable def kMs (fi f1 f2 f3 f4 f5 : Addr) (sl vm ti tq tn : Value) : List (Str × Value) := [("__hash__", .none), ("__ge__", .ref f5), ("__le__", .ref f4), ("__eq__", .ref f3), ("__gt__", .ref f2), ("__lt__", .ref f1), ("__init__", .ref fi), ("__slots__", sl), ("__module__", vm), ("__firstlineno__", ti), ("__qualname__", tq), ("__module__", tn)]
structure KRk (C : Addr) (ms : List (Str × Value)) (h : Heap) : Prop where
  ex : ∃ fi f1 f2 f3 f4 f5 sl vm ti tq tn, ms = kMs fi f1 f2 f3 f4 f5 sl vm ti tq tn ∧ KIni h fi ∧ KMeth h C .Lt f1 ∧ KMeth h C .Gt f2 ∧ KMeth h C .Eq f3 ∧ KMeth h C .LtE f4 ∧ KMeth h C .GtE f5
noncomputable def DN (h : Heap) (N : Addr) : Prop := ∃ es ep, h.get? N = some { cls := .type "dict", data := .dict es ep }
theorem KMeth.keep {h h' : Heap} {C fl N : Addr} {op : CmpOp} (x : KMeth h C op fl) (hN : DN h N) (k : ∀ b o, b ≠ N → h.get? b = some o → o.cls ≠ .none → h'.get? b = some o) : KMeth h' C op fl := by obtain ⟨fd, e, y, r⟩ := x; exact ⟨fd, e, y.keep hN k, r⟩
theorem KIni.keep {h h' : Heap} {fl N : Addr} (x : KIni h fl) (hN : DN h N) (k : ∀ b o, b ≠ N → h.get? b = some o → o.cls ≠ .none → h'.get? b = some o) : KIni h' fl := by obtain ⟨fd, e, y, r⟩ := x; exact ⟨fd, e, y.keep hN k, r⟩
theorem kp_of {T : Tb} {N : Addr} {s s' : Shared} (l : Lt T (fun b => b = N) s s') : ∀ b o, b ≠ N → s.heap.get? b = some o → o.cls ≠ .none → s'.heap.get? b = some o := fun _ _ nb e hc => l.ext.get nb e hc
/-- the finished class -/
theorem isK_of {h6 : Heap} {s' : Shared} {N a N' D C : Addr} {m' : Str → Option Value} {ms : List (Str × Value)} {v : Value} (r : KRk C ms h6) (hN : DN h6 N) (k : ∀ b o, b ≠ N → h6.get? b = some o → s'.heap.get? b = some o) (km : KMade s' a N' D m') (hm : ∀ x : Str, x ≠ "__qualname__" → x ≠ "obj" → x ≠ "__doc__" → x ≠ "__static_attributes__" → m' x = ms.lookup x) (hc : s'.heap.IsCell C (some v)) : ∃ fi, KAt s'.heap a v N' D C fi m' := by
  refine Classical.byContradiction fun nay => ?_
  obtain ⟨fi, f1, f2, f3, f4, f5, sl, vm, ti, tq, tn, rfl, k0, k1, k2, k3, k4, k5⟩ := r.ex
  refine nay ?_
  clear nay
  have kk : ∀ b o, b ≠ N → h6.get? b = some o → o.cls ≠ .none → s'.heap.get? b = some o := fun b o nb e _ => k b o nb e
  refine ⟨fi, ⟨km.ob, km.ns, km.sl, km.md, hc, ?_, k0.keep hN kk, fun x op hx => ?_, fun x hx => ?_⟩⟩
  · rw [hm _ (by decide) (by decide) (by decide) (by decide)]; rfl
  · simp only [mops, List.mem_cons, Prod.mk.injEq, List.not_mem_nil, or_false] at hx
    rcases hx with ⟨rfl, rfl⟩ | ⟨rfl, rfl⟩ | ⟨rfl, rfl⟩ | ⟨rfl, rfl⟩ | ⟨rfl, rfl⟩
    · exact ⟨f1, by rw [hm _ (by decide) (by decide) (by decide) (by decide)]; rfl, k1.keep hN kk⟩
    · exact ⟨f2, by rw [hm _ (by decide) (by decide) (by decide) (by decide)]; rfl, k2.keep hN kk⟩
    · exact ⟨f3, by rw [hm _ (by decide) (by decide) (by decide) (by decide)]; rfl, k3.keep hN kk⟩
    · exact ⟨f4, by rw [hm _ (by decide) (by decide) (by decide) (by decide)]; rfl, k4.keep hN kk⟩
    · exact ⟨f5, by rw [hm _ (by decide) (by decide) (by decide) (by decide)]; rfl, k5.keep hN kk⟩
  · have ne : ∀ y ∈ kNames, x ≠ y := fun y hy q => hx (q ▸ hy)
    rw [hm x (ne _ (by decide)) (ne _ (by decide)) (ne _ (by decide)) (ne _ (by decide))]
    have nb : ∀ y ∈ kNames, (x == y) = false := fun y hy => by simpa using ne y hy
    unfold kMs
    simp only [List.lookup_cons, nb "__hash__" (by decide), nb "__ge__" (by decide), nb "__le__" (by decide), nb "__eq__" (by decide), nb "__gt__" (by decide), nb "__lt__" (by decide), nb "__init__" (by decide), nb "__slots__" (by decide), nb "__module__" (by decide), nb "__firstlineno__" (by decide), nb "__qualname__" (by decide)]
    rfl
/-- past a store to the frame's own places -/
theorem KAt.past {h h' : Heap} {a N D C fi : Addr} {v : Value} {m : Str → Option Value} (x : KAt h a v N D C fi m) (k : ∀ b o, h.get? b = some o → o.cls ≠ .none → (∀ es ep, o.data ≠ .dict es ep) → (∀ u, o.data ≠ .cell u) → h'.get? b = some o) (hn : h'.Ns1 N m) (hc : h'.IsCell C (some v)) : KAt h' a v N D C fi m := by
  have kf : ∀ fl fd, KFn h fl fd → KFn h' fl fd := fun fl fd y => by
    refine ⟨k _ _ y.ob (fun z => by cases z) (fun _ _ z => by cases z) (fun _ z => by cases z), ?_, y.g, y.b⟩
    refine Classical.byContradiction fun nay => ?_
    obtain ⟨c, o, vs, t, a, b, cl, d, e⟩ := y.code.ok
    refine nay ?_
    clear nay
    exact ⟨c, o, vs, t, a, k c o b (by rw [cl]; exact fun z => by cases z) (fun _ _ z => by rw [d] at z; cases z) (fun _ z => by rw [d] at z; cases z), cl, d, e⟩
  refine ⟨by obtain ⟨kk, e⟩ := x.ob; exact ⟨kk, k _ _ e (fun z => by cases z) (fun _ _ z => by cases z) (fun _ z => by cases z)⟩, hn, x.sl, by obtain ⟨tD, e⟩ := x.md; exact ⟨tD, k _ _ e (fun z => by cases z) (fun _ _ z => by cases z) (fun _ z => by cases z)⟩, hc, x.ini, ?_, fun y op hy => ?_, x.no⟩
  · obtain ⟨fd, e, y, r⟩ := x.inf; exact ⟨fd, e, kf _ _ y, r⟩
  · obtain ⟨fl, p, fd, e, z, r⟩ := x.ops y op hy; exact ⟨fl, p, fd, e, kf _ _ z, r⟩
set_option maxHeartbeats 4000000 in
theorem cmp_ok {t : Tx} {lo : Prop} {n : Nat} {f : Addr} {pm doc v : Value} (b : Base κ h) (fa : FnAt h f (fAt 0 pm (.ref t.ck) doc)) (ct : CmpTop κ t h) (hT : κ.T = t.tb lo) (hgd : t.Good) (hkp : t.kpos = ⟨5, 4, 26, 23⟩) (hqk : t.qk = qkOf qk1) :
    Fun κ (n + 3) h (.ref f) (Iss [.val v]) (fun V u h' => ∃ a, u = .ref a ∧ IsKV V h' a v) := by
  refine Classical.byContradiction fun nay => ?_
  obtain ⟨x, o, hn0, hx⟩ := ct.n0
  obtain ⟨nm, tn, hnm⟩ := ct.nm
  refine nay ?_
  clear nay
  refine fun_def (body := (dAt 0).body) b fa rfl rfl rfl rfl rfl rfl rfl fun V s₀ vs y pa => ?_
  obtain ⟨v', rfl⟩ : ∃ v', vs = [v'] := by cases pa with | cons a r => cases r; exact ⟨_, rfl⟩
  obtain rfl : v' = v := by cases pa with | cons a r => cases a; rfl
  refine ⟨[("mycmp", v')], rfl, fun x hx => ?_, fun A s rm F k => ?_⟩
  · simp only [List.mem_singleton] at hx
    subst hx
    exact .inr ⟨rfl, rfl⟩
  have okT : ∀ s' : Shared, κ.T.ok s'.heap → Oks t s'.heap := fun s' z => by rw [hT] at z; exact z
  have y0 := F.at0
  have hsz : t.n0 ≤ s.heap.objs.size := by
    rw [hn0]
    rcases y0.ext x o (fun f => f) hx with e | ⟨_, _, _, _, e⟩ <;> exact Heap.lt_size e
  refine wpAny_execs_cons (class_stmt (n := n + 1) (t := t) (cl := [("mycmp", s₀.heap.objs.size + 1)]) (Rk := fun ms s6 => KRk (s₀.heap.objs.size + 1) ms s6.heap) (b.ext y0.ext) (ct.bm.ext y0.ext) (by obtain ⟨mc, a, e⟩ := ct.pk; exact ⟨mc, ns_ext y0.ext a, e⟩) hT hgd hsz (okT s y0.ok) F.tk (Nat.lt_of_lt_of_le ct.sm hsz) rfl rfl rfl rfl rfl ct.mo ct.bo ct.bc rfl hkp.symm rfl hnm rm rfl rfl rfl rfl (.inl rfl) rfl rfl rfl ?_ ?_)
  · intro N c Fr s1 tq ti F1 ik
    have bb := b.ext y0.ext
    have bm := ct.bm.ext y0.ext
    refine codeAny_body rfl rfl (wpAny_mono (E := fun _ _ => False) ?_ (fun _ _ z => z) fun _ _ z => z.elim)
    refine wpost fun Q1 E1 hQ1 _ => ?_
    refine cb_assign (n := n + 1) (P := Is (.str "cpy313.functools")) F1 rm.deeper ?_ ?_ ?_ ?_ ?_ ?_ ?_
    · rfl
    · rfl
    · rfl
    · exact ev_str
    · intro v h' p; cases p; exact .inr (.inr (.inl ⟨_, _, rfl⟩))
    · rfl
    intro v1 s1' s2 p1 _ hs1 F2 l2
    refine cb_assign (n := n + 1) (P := Is (.list [.str "obj"])) F2 rm.deeper rfl rfl rfl ?_ ?_ rfl ?_
    · exact ev_list (evl_is ev_str evl_is_nil) (by decide)
    · intro v h' p
      cases p with
      | list va pl r => obtain ⟨n, e⟩ := pl; exact .inr (.inr (.inr ⟨_, _, "list", rfl, e, rfl, .inl rfl⟩))
    intro v2 s2' s3 p2 la hs2 F3 l3
    have ik3 := InK.extN hT (okT s3 (F3.l.ok F3.ok)) (InK.extN hT (okT s2 (F2.l.ok F2.ok)) ik F1.d.ob l2.ext) F2.d.ob l3.ext
    refine cb_fn F3 rfl rfl rfl bb bm rfl rfl rfl rfl rfl rfl hT hgd rfl ik3 (by rw [hqk]; rfl) (by rw [hqk]; exact qkOf_at) ?_
    intro fi fid s4 gfi efi F4 l4 ik4
    refine cb_fn F4 rfl rfl rfl bb bm rfl rfl rfl rfl rfl rfl hT hgd rfl ik4 (by rw [hqk]; rfl) (by rw [hqk]; exact qkOf_at) ?_
    intro fa fad s5 gfa efa F5 l5 ik5
    refine cb_fn F5 rfl rfl rfl bb bm rfl rfl rfl rfl rfl rfl hT hgd rfl ik5 (by rw [hqk]; rfl) (by rw [hqk]; exact qkOf_at) ?_
    intro fb fbd s6 gfb efb F6 l6 ik6
    refine cb_fn F6 rfl rfl rfl bb bm rfl rfl rfl rfl rfl rfl hT hgd rfl ik6 (by rw [hqk]; rfl) (by rw [hqk]; exact qkOf_at) ?_
    intro fc fcd s7 gfc efc F7 l7 ik7
    refine cb_fn F7 rfl rfl rfl bb bm rfl rfl rfl rfl rfl rfl hT hgd rfl ik7 (by rw [hqk]; rfl) (by rw [hqk]; exact qkOf_at) ?_
    intro fe fed s8 gfe efe F8 l8 ik8
    refine cb_fn F8 rfl rfl rfl bb bm rfl rfl rfl rfl rfl rfl hT hgd rfl ik8 (by rw [hqk]; rfl) (by rw [hqk]; exact qkOf_at) ?_
    intro fg fgd s9 gfg efg F9 l9 ik9
    refine cb_assign (n := n + 1) (P := Is .none) F9 rm.deeper rfl rfl rfl ev_none (fun v h' p => by cases p; exact .inl rfl) rfl ?_
    intro v9 s9' s10 p9 _ hs9 F10 l10
    have l5' := l5.trans (l6.trans (l7.trans (l8.trans (l9.trans l10))))
    have l6' := l6.trans (l7.trans (l8.trans (l9.trans l10)))
    have l7' := l7.trans (l8.trans (l9.trans l10))
    have l8' := l8.trans (l9.trans l10)
    have l9' := l9.trans l10
    refine wpAny_execs_nil (hQ1 _ _ ⟨rfl, l2.trans (l3.trans (l4.trans l5')), _, F10, ?_, (by show 12 ≤ 50; decide), ⟨fi, fa, fb, fc, fe, fg, v2, v1, .int 5 ti, .str nameK tq, .str nm tn, ?_, ?_, ?_, ?_, ?_, ?_, ?_⟩⟩)
    · cases p9
      cases p2 with
      | list va pl r =>
        obtain ⟨n', e⟩ := pl
        rename_i sl items
        obtain ⟨to, rfl⟩ : ∃ to, items = #[.str "obj" to] := by
          obtain ⟨il⟩ := items
          cases r with
          | cons d1 d2 =>
            cases d2
            cases d1
            exact ⟨_, rfl⟩
        have nsl : sl ≠ N := fun q => by
          refine Classical.byContradiction fun nay => ?_
          obtain ⟨es, ep, hN⟩ := F2.d.ob
          refine nay ?_
          clear nay
          have hN2 := Ext.get la.ext hN fun z => by cases z
          rw [q, hN2] at e
          exact absurd (congrArg Obj.cls (Option.some.inj e)) (show Value.type "dict" ≠ Value.type "list" by decide)
        have e3 := (hs2.2 sl nsl).trans e
        have e10 := (l4.trans l5').ext.get nsl e3 fun z => by cases z
        exact ⟨⟨sl, to, n', rfl, e10⟩, rfl, ⟨tq, rfl⟩, rfl, rfl, rfl, (by show 12 ≤ 60; decide)⟩
    · cases p9; rfl
    · exact KIni.keep ⟨fid, _, gfi, efi.1, .mk _ _ _ _, efi.2.1, efi.2.2.1, by obtain ⟨_, _, _, _, q⟩ := efi.2.2.2; subst q; intro v w; rfl⟩ F4.d.ob (kp_of l5')
    · exact KMeth.keep ⟨fad, _, gfa, one_of efa.1, .mk _ _ _ _ _ _ _ _, efa.2.1, efa.2.2.1, by obtain ⟨_, _, _, _, q⟩ := efa.2.2.2; subst q; intro v w; rfl⟩ F5.d.ob (kp_of l6')
    · exact KMeth.keep ⟨fbd, _, gfb, one_of efb.1, .mk _ _ _ _ _ _ _ _, efb.2.1, efb.2.2.1, by obtain ⟨_, _, _, _, q⟩ := efb.2.2.2; subst q; intro v w; rfl⟩ F6.d.ob (kp_of l7')
    · exact KMeth.keep ⟨fcd, _, gfc, one_of efc.1, .mk _ _ _ _ _ _ _ _, efc.2.1, efc.2.2.1, by obtain ⟨_, _, _, _, q⟩ := efc.2.2.2; subst q; intro v w; rfl⟩ F7.d.ob (kp_of l8')
    · exact KMeth.keep ⟨fed, _, gfe, one_of efe.1, .mk _ _ _ _ _ _ _ _, efe.2.1, efe.2.2.1, by obtain ⟨_, _, _, _, q⟩ := efe.2.2.2; subst q; intro v w; rfl⟩ F8.d.ob (kp_of l9')
    · exact KMeth.keep ⟨fgd, _, gfg, one_of efg.1, .mk _ _ _ _ _ _ _ _, efg.2.1, efg.2.2.1, by obtain ⟨_, _, _, _, q⟩ := efg.2.2.2; subst q; intro v w; rfl⟩ F9.d.ob (kp_of l10)
  · intro ms N s6 a N' D m' s' rk hN k6 km fr hm l6 tk
    have hcell : s.heap.IsCell (s₀.heap.objs.size + 1) (some v') := by
      refine Classical.byContradiction fun nay => ?_
      obtain ⟨u, p, r⟩ := F.fm.cl "mycmp" (s₀.heap.objs.size + 1) rfl
      refine nay ?_
      clear nay
      obtain rfl := r v' (by exact fun z => by cases z) rfl
      refine Classical.byContradiction fun nay => ?_
      obtain ⟨o, e, hd⟩ := p
      refine nay ?_
      clear nay
      have va : V (s₀.heap.objs.size + 1) := y.vis _ (.inr (get_none_of_size (Nat.le_succ _)))
      exact ⟨o, (by rw [cutH_yes va] at e; exact e), hd⟩
    have ik := isK_of rk hN k6 km hm (cell_ext l6.ext hcell)
    refine Classical.byContradiction fun no => ?_
    obtain ⟨fi1, K1⟩ := isK_of rk hN k6 km hm (cell_ext l6.ext hcell)
    have F6 := F.on l6 tk
    have vL : V s₀.heap.objs.size := y.vis _ (.inr (get_none_of_size (Nat.le_refl _)))
    have va : V (s₀.heap.objs.size + 1) := y.vis _ (.inr (get_none_of_size (Nat.le_succ _)))
    refine Classical.byContradiction fun nay => ?_
    obtain ⟨mL, ⟨oL, esL, epL, eL, hdL, _⟩, _⟩ := F.fm.ns
    refine nay ?_
    clear nay
    have eL' : s.heap.get? s₀.heap.objs.size = some oL := by rw [← cutH_yes vL]; exact eL
    refine Classical.byContradiction fun nay => ?_
    obtain ⟨mM, ⟨oM, esM, epM, eM, hdM, _⟩, _⟩ := F6.fm.ns
    refine nay ?_
    clear nay
    have eM' : s'.heap.get? s₀.heap.objs.size = some oM := by rw [← cutH_yes vL]; exact eM
    have hC6 := cell_ext l6.ext hcell
    refine no (F6.store (.inl rfl) fun s7 F7 _ e7 => ?_)
    clear no
    have hX : ∀ b, (b = s₀.heap.objs.size ∨ ∃ y, (callEnvC (fAt 0 pm (.ref t.ck) doc) s₀.heap.objs.size f).cells.lookup y = some b) → b = s₀.heap.objs.size ∨ b = s₀.heap.objs.size + 1 := fun b hb => by
      rcases hb with hb | ⟨y, hy⟩
      · exact .inl hb
      · refine .inr ?_
        have hy' : List.lookup y [(("mycmp" : Str), s₀.heap.objs.size + 1)] = some b := hy
        rw [List.lookup_cons] at hy'
        split at hy'
        · exact (Option.some.inj hy').symm
        · cases hy'
    have get7 : ∀ b o, s'.heap.get? b = some o → o.cls ≠ .none → (∀ es ep, o.data ≠ .dict es ep) → (∀ u, o.data ≠ .cell u) → s7.heap.get? b = some o := fun b o e hc h1 h2 => e7.get (fun q => by
      rcases hX b q with rfl | rfl
      · rw [eM'] at e; cases e; exact h1 _ _ hdM
      · refine Classical.byContradiction fun nay => ?_
        obtain ⟨oc, ec, hdc⟩ := hC6
        refine nay ?_
        clear nay
        rw [ec] at e; cases e; exact h2 _ hdc) e hc
    have hN7 : s7.heap.Ns1 N' m' := K1.ns.at fun o e => by
      refine Classical.byContradiction fun nay => ?_
      obtain ⟨o', es, ep, e', hd', _⟩ := K1.ns
      refine nay ?_
      clear nay
      rw [e] at e'; cases e'
      refine e7.get_data (fun q => ?_) e fun vs z => by rw [hd'] at z; cases z
      rcases hX N' q with e8 | e8
      · rw [e8, eL'] at fr; cases fr
      · refine Classical.byContradiction fun nay => ?_
        obtain ⟨oc, ec, hdc⟩ := hC6
        refine nay ?_
        clear nay
        rw [← e8, e] at ec; cases ec; rw [hd'] at hdc; cases hdc
    have hC7 : s7.heap.IsCell (s₀.heap.objs.size + 1) (some v') := by
      refine Classical.byContradiction fun nay => ?_
      obtain ⟨u, p, r⟩ := F7.fm.cl "mycmp" (s₀.heap.objs.size + 1) rfl
      refine nay ?_
      clear nay
      obtain rfl := r v' (by exact fun z => by cases z) rfl
      refine Classical.byContradiction fun nay => ?_
      obtain ⟨o, e, hd⟩ := p
      refine nay ?_
      clear nay
      exact ⟨o, (by rw [cutH_yes va] at e; exact e), hd⟩
    have K7 := K1.past get7 hN7 hC7
    have ev : Ev κ n (callEnvC (fAt 0 pm (.ref t.ck) doc) s₀.heap.objs.size f) (cutH V s7.heap) (.Name "K" ⟨27, 11, 27, 12⟩) (Is (.val (.ref a))) := ev_var (W := Tr) (vr_of F7.fm rfl (.inl rfl)) (.val _) (by decide)
    refine wpAny_execs_cons (wpAny_Return_some (F7.go ev (rm.le (by omega)) fun u s8 p l8 F8 => ?_))
    cases p
    exact ⟨⟨_, rfl, a, rfl, N', D, _, fi1, m', K7.ext l8.ext, y.vis _ (.inr (Ext.back F.l.ext fr)), va⟩, F8.l⟩
end Mine
end
section
open PySem PySem.W PySem.W.X PyProof.Rows PySem.Calls Builtin Builtin.ObjectAttr Builtin.Getset_descriptor
set_option Elab.async false
set_option maxRecDepth 100000
set_option maxHeartbeats 1000000
namespace Mine
/-! ## K as a fragment of the heap -/
theorem find_keys {es : Array DictEntry} (hk : StrKeys es) (name : Str) :
    (match es.toList.find? (·.key.isStr name) with
      | some e => some (some e.val)
      | none => if es.toList.any (·.refKey) then none else some none) = some (nsFind es name) := by
  have hany : es.toList.any (·.refKey) = false := by
    rw [List.any_eq_false]
    intro e he
    refine Classical.byContradiction fun nay => ?_
    obtain ⟨n, t, h⟩ := hk e (Array.mem_toList_iff.mp he)
    refine nay ?_
    clear nay
    simp [DictEntry.refKey, h]
  rw [hany]
  unfold nsFind findBy
  rw [← Array.find?_toList]
  cases es.toList.find? (·.key.isStr name) <;> rfl
noncomputable def dObj (a : Addr) (tD : Tok) : Obj := { cls := .type "member_descriptor", data := .fields #[.str "obj" tD, .ref a, .builtin "proto.slot", .builtin "proto.slot#set", rawInt 0] }
noncomputable def kFrag (a N D : Addr) (k : KSl) (oN oD : Obj) (rest : Frag) : Frag := (a, kObj a N k) :: (N, oN) :: (D, oD) :: rest
structure KFr (h : Heap) (a N D : Addr) (k : KSl) (oN : Obj) (tD : Tok) (m : Str → Option Value) : Prop where
  ha : h.get? a = some (kObj a N k)
  hN : h.get? N = some oN
  hD : h.get? D = some (dObj a tD)
  nN : N ≠ a
  nD : D ≠ a
  nND : D ≠ N
  find : ∀ K rest, K = kFrag a N D k oN (dObj a tD) rest → ∀ x, nsIn K N x = some (m x)
theorem lookB {b c : Addr} (n : b ≠ c) : (b == c) = false := by simpa using n
theorem KAt.fr {h : Heap} {a N D cell fi : Addr} {f : Value} {m : Str → Option Value} (K : KAt h a f N D cell fi m) : ∃ k oN tD, KFr h a N D k oN tD m := by
  refine Classical.byContradiction fun nay => ?_
  obtain ⟨k, ha⟩ := K.ob
  obtain ⟨oN, es, ep, hN, hd, hs, hu, hm⟩ := K.ns
  obtain ⟨tD, hD⟩ := K.md
  refine nay ?_
  clear nay
  have nN : N ≠ a := fun q => by rw [q, ha] at hN; cases hN; cases hd
  have nD : D ≠ a := fun q => by rw [q, ha] at hD; exact absurd (congrArg Obj.cls (Option.some.inj hD)) (show Value.type "type" ≠ Value.type "member_descriptor" by decide)
  have nND : D ≠ N := fun q => by rw [q, hN] at hD; cases hD; cases hd
  refine ⟨k, oN, tD, ha, hN, hD, nN, nD, nND, fun K' rest e x => ?_⟩
  subst e
  refine Classical.byContradiction fun nay => ?_
  obtain ⟨oc, od, oda, osl⟩ := oN
  refine nay ?_
  clear nay
  dsimp only at hd
  subst hd
  have e1 : (kFrag a N D k ⟨oc, od, .dict es ep, osl⟩ (dObj a tD) rest).lookup N = some ⟨oc, od, .dict es ep, osl⟩ := by
    unfold kFrag
    simp [List.lookup_cons, lookB nN]
  unfold nsIn
  rw [e1]
  dsimp -zeta only
  exact (find_keys hs x).trans (by rw [hm])
section
variable {h : Heap} {a N D : Addr} {k : KSl} {oN : Obj} {tD : Tok} {m : Str → Option Value} {rest : Frag}
theorem KFr.at_a : (kFrag a N D k oN (dObj a tD) rest).lookup a = some (kObj a N k) := by unfold kFrag; simp [List.lookup_cons]
theorem KFr.at_D (F : KFr h a N D k oN tD m) : (kFrag a N D k oN (dObj a tD) rest).lookup D = some (dObj a tD) := by
  unfold kFrag; simp [List.lookup_cons, lookB F.nD, lookB F.nND]
theorem KFr.inn (F : KFr h a N D k oN tD m) (hr : Frag.In rest h) : Frag.In (kFrag a N D k oN (dObj a tD) rest) h := fun b o e => by
  unfold kFrag at e
  rw [List.lookup_cons] at e
  split at e
  · rename_i q; cases e; rw [beq_iff_eq.mp q]; exact F.ha
  · rw [List.lookup_cons] at e
    split at e
    · rename_i q; cases e; rw [beq_iff_eq.mp q]; exact F.hN
    · rw [List.lookup_cons] at e
      split at e
      · rename_i q; cases e; rw [beq_iff_eq.mp q]; exact F.hD
      · exact hr b o e
theorem KFr.findIn (F : KFr h a N D k oN tD m) (x : Str) : PySem.W.findIn (kFrag a N D k oN (dObj a tD) rest) (.ref a) x = match m x with | some v => some (some v) | none => (match fastBuiltinOwn "object" x with | some v => some (some v) | none => some none) := by
  have hf := F.find _ rest rfl x
  unfold PySem.W.findIn
  dsimp -zeta only
  rw [KFr.at_a]
  show alongIn _ x [.ref a, .type "object"] = _
  unfold alongIn
  unfold ownIn
  dsimp -zeta only
  rw [KFr.at_a]
  show (match nsIn _ N x with | some (some v) => some (some v) | some none => alongIn _ x [.type "object"] | none => none) = _
  rw [hf]
  cases m x with
  | some v => rfl
  | none =>
    show alongIn _ x [.type "object"] = _
    unfold alongIn ownIn
    dsimp -zeta only
    cases fastBuiltinOwn "object" x with
    | some v => rfl
    | none => rfl
end
theorem obj_sa : fastBuiltinOwn "object" ("__setattr__" : Str) = some (.builtin "object.__setattr__") := by decide +kernel
theorem obj_ga : fastBuiltinOwn "object" ("__getattribute__" : Str) = some (.builtin "object.__getattribute__") := by decide +kernel
theorem obj_g : fastBuiltinOwn "object" ("__getattr__" : Str) = none := by decide +kernel
theorem md_get : fastLookup "member_descriptor" ("__get__" : Str) = some (some (.builtin "member_descriptor.__get__")) := by decide +kernel
theorem md_set : fastLookup "member_descriptor" ("__set__" : Str) = some (some (.builtin "member_descriptor.__set__")) := by decide +kernel
/-- an object of the class at a, its obj v -/
structure KInst (h : Heap) (x a : Addr) (v : Value) : Prop where
  ex : ∃ dx, h.get? x = some { cls := .ref a, dict := some dx, data := .plain, slots := #[some v] }
theorem KInst.ext {T : Tb} {h h' : Heap} {x a : Addr} {v : Value} (I : KInst h x a v) (k : Ext T h h') : KInst h' x a v :=
  by obtain ⟨dx, e⟩ := I.ex; exact ⟨dx, Ext.get k e fun z => by cases z⟩
theorem KInst.type {M : Model} {h : Heap} {x a : Addr} {v : Value} (I : KInst h x a v) : PySem.W.Looks M h (typeOf (.ref x)) (.ref a) := by
  obtain ⟨dx, e⟩ := I.ex
  exact (PySem.W.Looks.ld (part := none) e).andThen .now
section
variable {prog : Program} {w : World} {A : Around} {E : Value → Shared → Prop} {s : Shared} {a N D cell fi x : Addr} {f v : Value} {m : Str → Option Value}
theorem k_get {expr : Bool} {Q : Value → Shared → Prop} (K : KAt s.heap a f N D cell fi m) (I : KInst s.heap x a v) (hh : handedIn v = true) (hq : Q v { s with toks := s.toks + 1 }) : wpAny (model prog w) A (getAttr (.ref x) "obj" expr) Q E s := by
  refine Classical.byContradiction fun nay => ?_
  obtain ⟨k, oN, tD, F⟩ := K.fr
  refine nay ?_
  clear nay
  have X : Frag.In (kFrag a N D k oN (dObj a tD) []) s.heap := F.inn fun _ _ e => by cases e
  have cl : clsIn (kFrag a N D k oN (dObj a tD) []) a = some { name := "K", bases := [.type "object"], mro := [.ref a, .type "object"], ns := N, qualname := nameK, hasDict := false, slotNames := ["obj"] } := by
    unfold clsIn; rw [KFr.at_a]; rfl
  have f1 : PySem.W.findIn (kFrag a N D k oN (dObj a tD) []) (.ref a) "obj" = some (some (.ref D)) := by rw [F.findIn, K.sl]
  have f2 : PySem.W.findIn (kFrag a N D k oN (dObj a tD) []) (.ref a) "__getattribute__" = some (some (.builtin "object.__getattribute__")) := by rw [F.findIn, K.no _ (by decide), obj_ga]
  have f3 : PySem.W.findIn (kFrag a N D k oN (dObj a tD) []) (.ref a) "__getattr__" = some none := by rw [F.findIn, K.no _ (by decide), obj_g]
  have t1 : typeIn (kFrag a N D k oN (dObj a tD) []) (.ref D) = some (.type "member_descriptor") := by
    show (List.lookup D _).map (fun o : Obj => o.cls) = _
    rw [F.at_D]; rfl
  have g1 : specialIn (kFrag a N D k oN (dObj a tD) []) (.ref D) "__get__" = some (some (.builtin "member_descriptor.__get__")) := by unfold specialIn; rw [t1]; exact md_get
  have g2 : takesIn (kFrag a N D k oN (dObj a tD) []) (.ref D) = some true := by
    have s1 : specialIn (kFrag a N D k oN (dObj a tD) []) (.ref D) "__set__" = some (some (.builtin "member_descriptor.__set__")) := by unfold specialIn; rw [t1]; exact md_set
    unfold takesIn; rw [s1]
  have g3 : slotIn (kFrag a N D k oN (dObj a tD) []) D a = some 0 := by
    unfold slotIn recIn
    rw [F.at_D, cl]
    simp [dObj, rawInt]
  refine Classical.byContradiction fun nay => ?_
  obtain ⟨n, tn, owner, behind, tb, d', sl, cd, ho, hc, hm, hb, hi0⟩ := slot_of (C := a) X g3
  obtain ⟨hp, g, dr, t, os⟩ := s
  refine nay ?_
  clear nay
  dsimp only at X I ho
  have L0 := I.type (M := model prog w)
  have L1 := looks_findIn (M := model prog w) X f2
  have L5 := looks_findIn (M := model prog w) X f3
  have LF : Looks (model prog w) hp (find (.ref x) (.ref a) "obj") (.bind (.builtin "member_descriptor.__get__") (.ref D)) :=
    (looks_findIn (M := model prog w) X f1).andThen ((show Looks (model prog w) hp (getOf (some (.ref D))) (some (.builtin "member_descriptor.__get__")) from looks_specialIn X g1).andThen
      ((show Looks (model prog w) hp (dataDescriptor? (some (.ref D)) (some (.builtin "member_descriptor.__get__"))) (some (.builtin "member_descriptor.__get__", .ref D)) from (looks_takesIn (M := model prog w) X g2).andThen .now).andThen (Looks.tag .now)))
  unfold getAttr getAttrBy
  refine wpAny_bind (wpAny_mkText (wpAny_holding (wpAny_bind (L0.at (wpAny_bind (L1.at ?_))))))
  show wpAny _ _ (getAttrEveryday _ _ _) _ _ _
  refine wpAny_bind (wpAny_onRaise (wpAny_runValue (codeAny_builtin PySem.F.plainObj_entry_getattr_hooked (wpAny_mono (Q := fun fin s' => fin = .done (.ret v) ∧ s' = ⟨hp, g, dr, t + 1, os⟩) (E := fun _ _ => False) ?_ (fun fin s' z => ?_) fun _ _ z => z.elim))))
  · refine wpAny_bind (wpAny_pure (wpAny_bind (L0.at (wpAny_bind (LF.at (wpAny_bind (L5.at ?_)))))))
    show wpAny _ _ (holding [.ref D] (call (.builtin "member_descriptor.__get__") [.ref D, .ref x, .ref a]) >>= ret) _ _ _
    refine wpAny_bind (wpAny_holding (wpAny_mono (Q := fun u s' => u = v ∧ s' = ⟨hp, g, dr, t + 1, os⟩) (E := fun _ _ => False) (wpAny_call ?_) (fun u s' z => by obtain ⟨rfl, rfl⟩ := z; exact wpAny_pure ⟨rfl, rfl⟩) fun _ _ z => z.elim))
    have L6 := looks_mroIn (M := model prog w) X hm
    have L7 : Looks (model prog w) hp (Slots.slotNamesOf (.ref a)) cd.slotNames := (looks_clsIn X hc).andThen .now
    obtain ⟨dx, e3⟩ := I.ex
    have q0 := looks_field (M := model prog w) ho 0 (v := .str n tn) rfl
    have q1 := looks_field (M := model prog w) ho 1 (v := owner) rfl
    have q2 := looks_field (M := model prog w) ho 2 (v := .builtin "proto.slot") rfl
    have q4 := looks_field (M := model prog w) ho 4 (v := .int behind tb) rfl
    refine codeAny_call_builtin KF.slot_mem.plain KF.entry_mem (KF.slot_mem.check _ _ _ _ _ _ _ _ ⟨_, ho, rfl⟩ (KF.args_mem _ _ _) ?_)
    unfold Builtin.«member_descriptor.__get__» descrGet
    rw [dga_obj]
    refine wpAny_bind (wpAny_pure ?_)
    unfold descrGetter descrCheckInstance descrNameAndClass isInstance
    repeat lk
    refine ⟨Code.quiet_builtin _ (by decide +kernel), codeAny_builtin KF.entry_slot ?_⟩
    unfold Builtin.«proto.slot» Slots.target
    repeat lk
    rw [if_neg hb]
    repeat lk
    rw [← hi0]
    exact wpAny_pure ⟨rfl, rfl⟩
  · obtain ⟨rfl, rfl⟩ := z
    show wpAny _ _ (handedOut v) _ _ _
    rw [handedOut_of hh]
    exact wpAny_pure hq
/-- a comparison looked up in the class -/
theorem k_if {name : Str} {fl : Addr} {fd : FuncData} {args : List Value} {Q : Option Value → Shared → Prop} (K : KAt s.heap a f N D cell fi m) (I : KInst s.heap x a v) (hl : m name = some (.ref fl)) (ob : s.heap.get? fl = some (fnObj fd))
    (hq : wpAny (model prog w) A (call (.ref fl) (.ref x :: args)) (fun v => Q (some v)) E s) : wpAny (model prog w) A (callSpecialIfBound? (.ref x) name args) Q E s := by
  refine Classical.byContradiction fun nay => ?_
  obtain ⟨k, oN, tD, F⟩ := K.fr
  obtain ⟨oN', es, ep, hN', hd', _⟩ := K.ns
  refine nay ?_
  clear nay
  have n1 : fl ≠ a := fun q => by
    have := ob
    rw [q, F.ha] at this
    exact absurd (congrArg Obj.cls (Option.some.inj this)) (show Value.type "type" ≠ Value.type "function" by decide)
  have n2 : fl ≠ N := fun q => by
    have := ob
    rw [q, hN'] at this
    cases this; cases hd'
  have n3 : fl ≠ D := fun q => by
    have := ob
    rw [q, F.hD] at this
    exact absurd (congrArg Obj.cls (Option.some.inj this)) (show Value.type "member_descriptor" ≠ Value.type "function" by decide)
  have X : Frag.In (kFrag a N D k oN (dObj a tD) [(fl, fnObj fd)]) s.heap := F.inn fun b' o e => by
    rw [List.lookup_cons] at e
    split at e
    · rename_i q; cases e; rw [beq_iff_eq.mp q]; exact ob
    · cases e
  have f1 : PySem.W.findIn (kFrag a N D k oN (dObj a tD) [(fl, fnObj fd)]) (.ref a) name = some (some (.ref fl)) := by rw [F.findIn, hl]
  have f2 : typeIn (kFrag a N D k oN (dObj a tD) [(fl, fnObj fd)]) (.ref fl) = some (.type "function") := by
    show (List.lookup fl _).map (fun o : Obj => o.cls) = _
    unfold kFrag
    simp [List.lookup_cons, lookB n1, lookB n2, lookB n3, fnObj]
  simp only [callSpecialIfBound?, bindSpecialIfBound?]
  refine wpAny_holding (wpAny_bind (wpAny_bind (wpAny_bind (I.type.here ((looks_findIn X f1).here (wpAny_bind (wpAny_askSetting (wpAny_ite ?_))))))))
  have fin : wpAny (model prog w) A (call (.ref fl) ([.ref x] ++ args) >>= fun v => pure (some v)) Q E s := wpAny_bind (wpAny_mono hq (fun v s' z => wpAny_pure z) fun _ _ z => z)
  split
  · exact wpAny_bind ((bind_fn X _ f2).here (wpAny_pure (by exact fin)))
  · exact wpAny_tryCatch (wpAny_bind ((bind_fn X _ f2).here (wpAny_pure (by exact fin))))
end
end Mine
end
section
open PySem PySem.W PySem.W.X PyProof.Rows PySem.Calls Builtin Builtin.ObjectAttr Builtin.Getset_descriptor
set_option Elab.async false
set_option maxRecDepth 100000
set_option maxHeartbeats 1000000
namespace Mine
/-! ## self.obj = v -/
noncomputable def bareObj (a dx : Addr) : Obj := { cls := .ref a, dict := some dx, data := .plain }
noncomputable def fullObj (a dx : Addr) (v : Value) : Obj := { cls := .ref a, dict := some dx, data := .plain, slots := #[some v] }
theorem k_set {prog : Program} {w : World} {A : Around} {E : Value → Shared → Prop} {s : Shared} {a N D cell fi x dx : Addr} {f v : Value} {m : Str → Option Value} {od : Obj} {Q : Unit → Shared → Prop} (K : KAt s.heap a f N D cell fi m) (hx : s.heap.get? x = some (bareObj a dx)) (hdx : s.heap.get? dx = some od)
    (hq : ∀ h', h'.get? x = some (fullObj a dx v) → Heap.SameBut x s.heap h' → Q () { s with heap := h', toks := s.toks + 1 }) : wpAny (model prog w) A (setAttr (.ref x) "obj" v) Q E s := by
  refine Classical.byContradiction fun nay => ?_
  obtain ⟨k, oN, tD, F⟩ := K.fr
  refine nay ?_
  clear nay
  have X : Frag.In (kFrag a N D k oN (dObj a tD) []) s.heap := F.inn fun _ _ e => by cases e
  have IA : PySem.W.InstAt s.heap x (bareObj a dx) a (some od) := ⟨hx, rfl, rfl, hdx⟩
  have cl : clsIn (kFrag a N D k oN (dObj a tD) []) a = some { name := "K", bases := [.type "object"], mro := [.ref a, .type "object"], ns := N, qualname := nameK, hasDict := false, slotNames := ["obj"] } := by
    unfold clsIn; rw [KFr.at_a]; rfl
  have f1 : PySem.W.findIn (kFrag a N D k oN (dObj a tD) []) (.ref a) "obj" = some (some (.ref D)) := by rw [F.findIn, K.sl]
  have f2 : PySem.W.findIn (kFrag a N D k oN (dObj a tD) []) (.ref a) "__setattr__" = some (some (.builtin "object.__setattr__")) := by rw [F.findIn, K.no _ (by decide), obj_sa]
  have t1 : typeIn (kFrag a N D k oN (dObj a tD) []) (.ref D) = some (.type "member_descriptor") := by
    show (List.lookup D _).map (fun o : Obj => o.cls) = _
    rw [F.at_D]; rfl
  have g2 : takesIn (kFrag a N D k oN (dObj a tD) []) (.ref D) = some true := by
    have s1 : specialIn (kFrag a N D k oN (dObj a tD) []) (.ref D) "__set__" = some (some (.builtin "member_descriptor.__set__")) := by unfold specialIn; rw [t1]; exact md_set
    unfold takesIn; rw [s1]
  have g3 : slotIn (kFrag a N D k oN (dObj a tD) []) D a = some 0 := by
    unfold slotIn recIn
    rw [F.at_D, cl]
    simp [dObj, rawInt]
  have po : plainOver (kFrag a N D k oN (dObj a tD) []) a = true := by unfold plainOver; rw [cl]; rfl
  have tk : takerIn (kFrag a N D k oN (dObj a tD) []) a "obj" = some (some (.ref D)) := by unfold takerIn; rw [f1]; show (takesIn _ _).map _ = _; rw [g2]; rfl
  refine set_plain X IA f2 (osa_descr (s := { s with toks := s.toks + 1 }) KF.slot_mset X IA po tk t1 ?_)
  refine Classical.byContradiction fun nay => ?_
  obtain ⟨n, tn, owner, behind, tb, d, sl, cd, ho, hc, hm, hb, e0⟩ := slot_of (C := a) X g3
  have hhD := F.hD
  have L0 := IA.type (M := model prog w)
  have L1 := looks_mroIn (M := model prog w) X hm
  have L2 : Looks (model prog w) s.heap (Slots.slotNamesOf (.ref a)) cd.slotNames := (looks_clsIn X hc).andThen .now
  obtain ⟨hh, g, dr, t, os⟩ := s
  refine nay ?_
  clear nay
  dsimp only at ho hx L0 L1 L2
  have f0 := looks_field (M := model prog w) ho 0 (v := .str n tn) rfl
  have f1 := looks_field (M := model prog w) ho 1 (v := owner) rfl
  have f3 := looks_field (M := model prog w) ho 3 (v := .builtin "proto.slot#set") rfl
  have f4 := looks_field (M := model prog w) ho 4 (v := .int behind tb) rfl
  refine codeAny_call_builtin KF.slot_mset.plain KF.entry_mset (KF.slot_mset.check _ _ _ _ _ _ _ _ ⟨_, ho, rfl⟩ (KF.args_mset _ _ _) ?_)
  unfold Builtin.«member_descriptor.__set__» descrSet descrStoreThrough descrCheckInstance descrNameAndClass isInstance
  have f5 : Looks (model prog w) hh (descrItself (.ref D)) [.ref D] := ((Looks.ld (part := none) ho).andThen .now).andThen (Looks.of_pure (by kernel_rfl))
  repeat lk
  refine ⟨Code.quiet_builtin _ (by decide +kernel), codeAny_builtin KF.entry_slotset ?_⟩
  unfold Builtin.«proto.slot#set» Slots.target
  repeat lk
  rw [if_neg hb]
  refine wpAny_pure (wpAny_bind ?_)
  unfold setSlotAt
  dsimp -zeta only
  rw [← e0, if_neg (by decide)]
  refine wpAny_updatePart hx (wpAny_pure ?_)
  refine hq _ ?_ (Heap.SameBut.update ..)
  rw [Heap.get?_update_self _ hx rfl]
  rfl
end Mine
end
section
open PySem PySem.W PySem.W.X PyProof.Rows PySem.Calls
set_option Elab.async false
set_option maxRecDepth 100000
set_option maxHeartbeats 1000000
namespace Mine
variable {κ : Cx} {n : Nat} {h : Heap} {A : Around} {s : Shared}
theorem k_init {a N D cell fi x dx : Addr} {f v : Value} {m : Str → Option Value} {od : Obj} (b : Base κ s.heap) (K : KAt s.heap a f N D cell fi m) (hx : s.heap.get? x = some (bareObj a dx)) (hdx : s.heap.get? dx = some od) (rm : Rm n A) :
    wpAny κ.M A (call (.ref fi) [.ref x, v]) (fun r s' => r = .none ∧ ∃ h' tk, s' = { s with heap := h', toks := tk } ∧ 0 < tk ∧ h'.get? x = some (fullObj a dx v) ∧ ∀ b o, b ≠ x → s.heap.get? b = some o → h'.get? b = some o) (fun _ _ => False) s := by
  refine Classical.byContradiction fun nay => ?_
  obtain ⟨fd, body, kf, hb, hi, hsc, hcl, hbind⟩ := K.inf
  refine nay ?_
  clear nay
  refine wpAny_call (codeAny_call_function rm.depth kf.ob rfl (by rw [hsc]; rfl) (by rw [hsc]; rfl) hb kf.code.toRec ?_)
  rw [hbind]
  refine wpAny_pure ?_
  rw [hsc, hcl, kf.g, kf.b]
  refine wpAny_newFunctionEnv (by decide) (by
    intro z hz
    simp only [List.mem_cons, List.not_mem_nil, or_false] at hz
    rcases hz with rfl | rfl <;> rfl) (fun h₁ hns hsb => ⟨?_, codeAny_func ?_⟩) rfl
  · have kp : ∀ b o, s.heap.get? b = some o → h₁.get? b = some o := fun b o e => hsb.extBut b o (Nat.ne_of_lt (Heap.lt_size e)) (Heap.get?_push_of_some _ e)
    exact (b.ext (Ext.of_keep kp)).lim
  have kp : ∀ b o, s.heap.get? b = some o → h₁.get? b = some o := fun b o e => hsb.extBut b o (Nat.ne_of_lt (Heap.lt_size e)) (Heap.get?_push_of_some _ e)
  have K1 : KAt h₁ a f N D cell fi m := K.ext (T := κ.T) (Ext.of_keep kp)
  cases hi
  refine wpAny_execs_cons (plainObj_wpAny_Assign_Attribute (wpAny_Name (wpAny_loadName_local (v := v) rfl rfl hns rfl (wpAny_Name (wpAny_loadName_local (v := .ref x) rfl rfl hns rfl (k_set K1 (kp _ _ hx) (kp _ _ hdx) fun h2 e2 sb2 => ?_))))))
  exact wpAny_execs_nil ⟨rfl, h2, _, rfl, Nat.succ_pos _, e2, fun b o nb e => sb2.extBut b o nb (kp b o e)⟩
theorem Rm.under {c : Code} (rm : Rm (n + 1) A) (hw : c.weight ≤ 1) (hc : c.cUnits ≤ 100) : Rm n (A.under c) := by
  have h1 := rm.dp
  have h2 := rm.un
  refine ⟨rm.hd, ?_, ?_⟩
  · show A.depth + c.weight + n < _
    rw [Nat.add_assoc, Nat.add_comm c.weight]
    exact Nat.lt_of_le_of_lt (Nat.add_le_add_left (Nat.add_le_add_left hw n) _) h1
  · show A.units + c.cUnits + 100 * n < _
    rw [Nat.add_assoc, Nat.add_comm c.cUnits]
    exact Nat.lt_of_le_of_lt (Nat.add_le_add_left (Nat.add_le_add_left hc (100 * n)) _) h2
/-- a call of K -/
noncomputable def KOf (a : Addr) (d : Da) : Pr := fun V u h' => ∃ x v, u = .ref x ∧ V x ∧ KInst h' x a v ∧ Dn V h' v d
theorem KOf.per {a : Addr} {d : Da} : Per κ (KOf a d) := fun _ _ _ _ e zz => by obtain ⟨x, v, u, vx, i, p⟩ := zz; exact ⟨x, v, u, vx, i.ext e, p.kv (Ext.kv e)⟩
theorem fun_K {a : Addr} {f : Value} {d : Da} (b : Base κ h) (K : IsK h a f) : Fun κ (n + 1) h (.ref a) (Iss [d]) (KOf a d) := by
  intro A s V vs rm y pa
  refine Classical.byContradiction fun nay => ?_
  obtain ⟨v, rfl, pv⟩ : ∃ v, vs = [v] ∧ Dn V s.heap v d := by cases pa with | cons p r => cases r; exact ⟨_, rfl, p⟩
  obtain ⟨N, D, cell, fi, m, K0⟩ := K.ext y.ext
  obtain ⟨k, oN, tD, F⟩ := K0.fr
  obtain ⟨fd, body, kf, _⟩ := K0.inf
  refine nay ?_
  clear nay
  have bs := b.ext y.ext
  have tk := y.tk
  refine Classical.byContradiction fun nay => ?_
  obtain ⟨hh, g, dr, t, os⟩ := s
  refine nay ?_
  clear nay
  dsimp only at K0 F kf bs pv tk
  refine k_call F.ha K0.ns.ns K0.ini kf.ob rfl ?_
  have kp : ∀ b o, hh.get? b = some o → (kMadeH hh a).get? b = some o := fun b o e => Heap.get?_push_of_some _ (Heap.get?_push_of_some _ e)
  have hx : (kMadeH hh a).get? (hh.objs.size + 1) = some (bareObj a hh.objs.size) := Heap.get?_push_at (by rw [Heap.size_push]) rfl
  have hdx : (kMadeH hh a).get? hh.objs.size = some { cls := .type "dict", data := .dict #[] } := Heap.get?_push_of_some _ (Heap.get?_push_size _ rfl)
  refine wpAny_mono (k_init (κ := κ) (n := n) (s := ⟨kMadeH hh a, g, dr, t, os⟩) (bs.ext (Ext.of_keep kp)) (K0.ext (T := κ.T) (Ext.of_keep kp)) hx hdx (rm.under (Nat.le_of_ble_eq_true (by kernel_rfl)) (Nat.le_of_ble_eq_true (by kernel_rfl)))) (fun r s' q => ?_) fun _ _ z => z.elim
  refine Classical.byContradiction fun nay => ?_
  obtain ⟨rfl, h', tk', rfl, htk, e2, k2⟩ := q
  refine nay ?_
  clear nay
  have kp2 : ∀ b o, hh.get? b = some o → h'.get? b = some o := fun b o e => k2 b o (Nat.ne_of_lt (Nat.lt_succ_of_lt (Heap.lt_size e))) (kp b o e)
  refine ⟨rfl, ⟨_, v, rfl, y.vis _ (.inr (get_none_of_size (Nat.le_succ _))), ⟨hh.objs.size, e2⟩, pv.kv (Ext.kv (T := κ.T) (Ext.of_keep kp2))⟩, ?_⟩
  exact .of_keep kp2
end Mine
end
section
open PySem PySem.W PySem.W.X PyProof.Rows PySem.Calls
set_option Elab.async false
set_option maxRecDepth 100000
set_option maxHeartbeats 1000000
namespace Mine
variable {κ : Cx} {n : Nat} {h : Heap} {A : Around} {s : Shared} {env : Env} {δ : Del}
/-! ## comparisons of instances of K -/
theorem ev_obj {x : Str} {p pos : Pos} {a xi : Addr} {f v : Value} {d : Da} (F : Fd κ h env δ) (hx : δ.lookup x = some (.val (.ref xi))) (K : IsK h a f) (I : KInst h xi a v) (dv : ∀ V h', Dn V h' v d) (hh : handedIn v = true) (hl : liesB env x = true := by rfl) (hd : (x == ("__debug__" : Str)) = false := by decide)
    (he : eval (.Attribute (.Name x p) "obj" pos) env = (do
      let o ← eval (.Name x p) env
      standAt pos.atName
      let r ← holding [o] (getAttr o "obj" true)
      letTemporaryGo (.Name x p) o r
      pure r) := by with_unfolding_all rfl) : Ev κ n env h (.Attribute (.Name x p) "obj" pos) (Is d) := by
  intro A s V rm y
  refine Attribute_any_ ((ev_loc (n := n) F hx hl hd).go rm y fun o s1 pv l1 y1 => ?_) he
  cases pv
  refine Classical.byContradiction fun nay => ?_
  obtain ⟨N, D, cell, fi, m, K1⟩ := K.ext y1.ext
  refine nay ?_
  clear nay
  exact k_get K1 (I.ext y1.ext) hh ⟨dv _ _, l1.trans .toks⟩
noncomputable def cmpB (op : CmpOp) (c : Int) : Bool := match op with
  | .Lt => decide (c < 0)
  | .Gt => decide (0 < c)
  | .Eq => c == 0
  | .LtE => decide (c ≤ 0)
  | .GtE => decide (0 ≤ c)
  | _ => false
theorem cmp_zero {M : Model} {op : CmpOp} {nm : Str} (ho : (nm, op) ∈ mops) {c : Int} {t u : Tok} {prog : Program} {w : World} {E : Value → Shared → Prop} {Q : Value → Shared → Prop} (hq : Q (.bool (cmpB op c)) s) : wpAny (model prog w) A (compareOp op (.int c t) (.int 0 u)) Q E s := by
  simp only [mops, List.mem_cons, Prod.mk.injEq, List.not_mem_nil, or_false] at ho
  rcases ho with ⟨rfl, rfl⟩ | ⟨rfl, rfl⟩ | ⟨rfl, rfl⟩ | ⟨rfl, rfl⟩ | ⟨rfl, rfl⟩
  · exact P.lt_int hq
  · exact P.gt_int hq
  · exact eq_int hq
  · exact P.le_int hq
  · exact P.ge_int hq
/-- one of K's comparisons, called with two instances -/
theorem fun_meth {cell fl fa a a' x y : Addr} {op : CmpOp} {nm : Str} {f f' v u : Value} {d e : Da} {c : Int} (ho : (nm, op) ∈ mops) (b : Base κ h) (M : KMeth h cell op fl) (hce : h.IsCell cell (some (.ref fa))) (hfn : IsFn h fa)
    (K : IsK h a f) (I : KInst h x a v) (dv : ∀ V h', Dn V h' v d) (hv : handedIn v = true) (K' : IsK h a' f') (J : KInst h y a' u) (du : ∀ V h', Dn V h' u e) (hu : handedIn u = true)
    (lam : Fun κ n h (.ref fa) (Iss [d, e]) (Is (.int c))) : Fun κ (n + 1) h (.ref fl) (Iss [.val (.ref x), .val (.ref y)]) (Is (.bool (cmpB op c))) := by
  refine Classical.byContradiction fun nay => ?_
  obtain ⟨fd, ex, kf, h1, h2, hsc, hcl, hbi⟩ := M
  obtain ⟨hob, hcode, hg, hbl⟩ := kf
  obtain ⟨nm', qn, pr, bd, sc, gl, cl, dt, kd, dc, pm, an, cd, ct, blt⟩ := fd
  refine nay ?_
  clear nay
  dsimp only at *
  subst hsc hcl hg hbl
  have fnat : FnAt h fl _ := ⟨⟨_, hob, rfl⟩, hcode⟩
  refine fun_clo (xs := ["self", "other"]) (δc := [("mycmp", .val (.ref fa))]) (ρc := fun z => if z = "mycmp" then some (.ref fa) else none) b fnat h1 rfl rfl rfl rfl rfl (by rfl) (fun vs hvs => ?_) (nd2 rfl) (by rfl) (by rfl) (fun z ad e0 => ?_) (fun z dd e0 => ?_) fun C h' k F => ?_
  · refine Classical.byContradiction fun nay => ?_
    obtain ⟨v1, v2, rfl⟩ := len2 hvs
    refine nay ?_
    clear nay
    exact hbi v1 v2
  · have e1 : List.lookup z [(("mycmp" : Str), cell)] = some ad := e0
    rw [List.lookup_cons] at e1
    split at e1
    · rename_i q
      cases e1
      exact ⟨_, hce, .inl (if_pos (by simpa using q))⟩
    · cases e1
  · rw [List.lookup_cons] at e0
    split at e0
    · rename_i q
      cases e0
      exact ⟨_, if_pos (by simpa using q), .val _⟩
    · cases e0
  · cases h2
    refine Classical.byContradiction fun nay => ?_
    obtain ⟨o, fdl, eo, dd⟩ := hfn.ext k
    refine nay ?_
    clear nay
    have hm : ∀ p7, behindInMarks op (.Constant (.int 0) 0 p7) = false := fun p7 => by
      simp only [mops, List.mem_cons, Prod.mk.injEq, List.not_mem_nil, or_false] at ho
      rcases ho with ⟨rfl, rfl⟩ | ⟨rfl, rfl⟩ | ⟨rfl, rfl⟩ | ⟨rfl, rfl⟩ | ⟨rfl, rfl⟩ <;> with_unfolding_all rfl
    refine ev_cmp (ev_call_f (F.vr rfl) eo dd (evl_is (ev_obj F rfl (K.ext k) (I.ext k) dv hv) (evl_is (ev_obj F rfl (K'.ext k) (J.ext k) du hu) evl_is_nil)) (lam.up k)) Is.per ev_int (fun A s V p q rm pp pq => ?_) (hm _)
    cases pp
    cases pq
    exact cmp_zero (M := κ.M) ho ⟨.bool _, .refl s⟩
/-- the sort's question -/
theorem k_lt {prog : Program} {w : World} {E : Value → Shared → Prop} {Q : Bool → Shared → Prop} {a N D cell fi x fl : Addr} {f v b : Value} {m : Str → Option Value} (hu : A.units < cLine) (K : KAt s.heap a f N D cell fi m) (I : KInst s.heap x a v) (hl : m "__lt__" = some (.ref fl)) (M : KMeth s.heap cell .Lt fl)
    (hq : wpAny (model prog w) A (call (.ref fl) [.ref x, b]) (fun r s' => ∃ t, r = .bool t ∧ Q t s') E s) : wpAny (model prog w) A (keyLt' oneType' (.ref x) b) Q E s := by
  refine Classical.byContradiction fun nay => ?_
  obtain ⟨fd, ex, kf, _⟩ := M
  refine nay ?_
  clear nay
  rw [keyLt'_oneType, oneLt'_eq]
  simp only [if_true]
  refine wpAny_bind (wpAny_cRoomFor hu ?_)
  refine wpAny_bind (k_if K I hl kf.ob (wpAny_mono hq (fun v s' hv => ?_) fun _ _ e => e))
  refine Classical.byContradiction fun nay => ?_
  obtain ⟨t, rfl, hQ⟩ := hv
  refine nay ?_
  clear nay
  exact wpAny_truthy_bool hQ
end Mine
end
section
open PySem PySem.W PySem.W.X PyProof.Rows PySem.Calls
set_option Elab.async false
set_option maxRecDepth 100000
set_option maxHeartbeats 1000000
namespace Mine
/-! ## the sort, its questions answered -/
noncomputable def runP {α : Type} (lt : Nat → Nat → Bool) : KasT α → α
  | .ret a => a
  | .ask i j k => runP lt (k (lt i j))
noncomputable def okT {α : Type} (n : Nat) : KasT α → Bool
  | .ret _ => true
  | .ask i j k => decide (i < n) && decide (j < n) && okT n (k true) && okT n (k false)
theorem kasWp_run {α : Type} {n : Nat} {lt : Nat → Nat → Bool} {cmp : Nat → Nat → (Bool → Shared → Prop) → Shared → Prop} {J : Shared → Prop} {Q : α → Shared → Prop}
    (hc : ∀ i j s C, i < n → j < n → J s → (∀ s', J s' → C (lt i j) s') → cmp i j C s) : ∀ (t : KasT α) (s : Shared), okT n t = true → J s → (∀ s', J s' → Q (runP lt t) s') → t.kasWp cmp Q s
  | .ret a, s, _, hj, hq => hq s hj
  | .ask i j k, s, ho, hj, hq => by
    unfold okT at ho
    simp only [Bool.and_eq_true, decide_eq_true_eq] at ho
    refine hc i j s _ ho.1.1.1 ho.1.1.2 hj fun s' hj' => kasWp_run hc (k (lt i j)) s' ?_ hj' hq
    cases lt i j
    · exact ho.2
    · exact ho.1.2
noncomputable def sortP (n : Nat) (lt : Nat → Nat → Bool) : List Nat := if n < 2 then List.range n else (runP lt (kas_sort n)).toList
/-- lists apart -/
noncomputable def Kl (h h' : Heap) : Prop := ∀ b o, h.get? b = some o → o.cls ≠ .none → o.cls ≠ .type "list" → h'.get? b = some o
theorem Ext.kl {T : Tb} {h h' : Heap} (k : Ext T h h') : Kl h h' := fun _ _ e c _ => Ext.get k e c
theorem SameBut.kl {h h' : Heap} {a : Addr} {o : Obj} (ha : h.get? a = some o) (hc : o.cls = .type "list") (s : Heap.SameBut a h h') : Kl h h' := fun b o' e _ n => s.extBut b o' (fun q => by rw [q, ha] at e; cases e; exact n hc) e
section
variable {κ : Cx} {A : Around} {E : Value → Shared → Prop} {s s₀ : Shared}
/-- two lists that are new, and what the rest has done -/
structure Two2 (κ : Cx) (s₀ : Shared) (L kS : Addr) (e1 : Nat) (keys : Array Value) (s : Shared) : Prop where
  l : Lt κ.T NoX s₀ s
  tk : 0 < s.toks
  nL : s₀.heap.get? L = none
  nk : s₀.heap.get? kS = none
  ne : kS ≠ L
  hL : s.heap.get? L = some (seqObj "list" #[] e1)
  hk : ∃ e, s.heap.get? kS = some (seqObj "list" keys e)
theorem Two2.on {L kS : Addr} {e1 : Nat} {keys : Array Value} {s' : Shared} (x : Two2 κ s₀ L kS e1 keys s) (l : Lt κ.T NoX s s') (t : 0 < s'.toks) : Two2 κ s₀ L kS e1 keys s' :=
  ⟨x.l.trans l, t, x.nL, x.nk, x.ne, Ext.get l.ext x.hL (fun z => by cases z), by obtain ⟨e, q⟩ := x.hk; exact ⟨e, Ext.get l.ext q fun z => by cases z⟩⟩
theorem calm_list {h h' : Heap} {a : Addr} {o : Obj} {vs : Array Value} {n : Nat} (ha : h.get? a = some o) (hd : o.data = .seq vs n) (s : Heap.SameBut a h h') : Calm h h' := Calm.but (fun b => b = a) (fun b o hb e => s.extBut b o hb e) fun b o' vs' hb e hd' => by
  rw [hb, ha] at e; cases e; rw [hd] at hd'; cases hd'
theorem Lt.turn {T : Tb} {s s' : Shared} {C : Addr} {h' : Heap} {tk : Nat} (l : Lt T NoX s s') (hC : s.heap.get? C = none) (hs : Heap.SameBut C s'.heap h') (cm : Calm s'.heap h') : Lt T NoX s ⟨h', s'.gens, s'.drawn, tk, s'.os⟩ := l.goC hC hs cm
noncomputable def KeysAre (KP : Nat → Value → Heap → Prop) (keys : Array Value) (h : Heap) : Prop := ∀ i u, keys[i]? = some u → KP i u h
/-- list.sort's tree, with a key -/
theorem sort_tree {L : Addr} {vs : List Value} {n : Nat} {f T : Value} {KP : Nat → Value → Heap → Prop} {lt : Nat → Nat → Bool} {P : PySem.Fin → Shared → Prop} (hl0 : Lt κ.T NoX s₀ s) (htk : 0 < s.toks) (nL : s₀.heap.get? L = none) (ho : s.heap.get? L = some (seqObj "list" vs.toArray n)) (h64 : vs.length < 64) (hok : okT vs.length (kas_sort vs.length) = true ∨ vs.length < 2)
    (kp : ∀ i u h h', Kl h h' → KP i u h → KP i u h')
    (turn : ∀ i v s', vs[i]? = some v → Lt κ.T NoX s₀ s' → 0 < s'.toks → wpAny κ.M A (call f [v]) (fun u s'' => KP i u s''.heap ∧ Lt κ.T NoX s' s'') (fun _ _ => False) s')
    (ty : ∀ i u s', Lt κ.T NoX s₀ s' → KP i u s'.heap → Looks κ.M s'.heap (typeOf u) T) (hT1 : (T != Value.type "tuple") = true) (hT2 : (T == T) = true)
    (ask : ∀ i j u v s', i < vs.length → j < vs.length → Lt κ.T NoX s₀ s' → 0 < s'.toks → KP i u s'.heap → KP j v s'.heap → wpAny κ.M A (keyLt' oneType' u v) (fun b s'' => b = lt i j ∧ Lt κ.T NoX s' s'') (fun _ _ => False) s')
    (hq : ∀ s' c, Lt κ.T NoX s₀ s' → 0 < s'.toks → s'.heap.get? L = some (seqObj "list" ((sortP vs.length lt).map fun i => vs.getD i .none).toArray c) → P (.done (.ret .none)) s') :
    wpAny κ.M A (ksk_tree L f false) P E s := by
  have ha : L < s.heap.objs.size := Heap.lt_size ho
  have s1 := Heap.SameBut.update s.heap L (Obj.mapSeq fun _ => (#[] : Array Value))
  obtain ⟨e1, ho1⟩ : ∃ e1, (s.heap.update L (Obj.mapSeq fun _ => (#[] : Array Value))).get? L = some (seqObj "list" #[] e1) := ⟨_, get?_update_seq ho fun _ => #[]⟩
  have hkS : ((s.heap.update L (Obj.mapSeq fun _ => (#[] : Array Value))).push (seqObj "tuple" vs.toArray 0)).objs.size = s.heap.objs.size + 1 := by rw [size_push', Heap.size_update]
  unfold ksk_tree
  refine wpAny_bind (listItems_at ho rfl ?_)
  refine wpAny_bind (listUpdate_at ho rfl ?_ (by rw [List.size_toArray, sizeLine_eq]; omega) (Nat.zero_le _))
  refine wpAny_bind (seqEpoch_at ho1 rfl ?_)
  refine wpAny_bind (wpAny_newTuple ?_ (by show vs.length ≤ _; rw [sizeLine_eq]; omega))
  refine wpAny_bind (wpAny_newList ?_ (Nat.zero_le _))
  refine wpAny_holding ?_
  have lA : Lt κ.T NoX s₀ { s with heap := s.heap.update L (Obj.mapSeq fun _ => (#[] : Array Value)) } := hl0.turn nL s1 (calm_list ho rfl s1)
  have W0 : Two2 κ s₀ L ((s.heap.update L (Obj.mapSeq fun _ => (#[] : Array Value))).push (seqObj "tuple" vs.toArray 0)).objs.size e1 #[] { s with heap := ((s.heap.update L (Obj.mapSeq fun _ => (#[] : Array Value))).push (seqObj "tuple" vs.toArray 0)).push (seqObj "list" #[] 0) } := by
    refine ⟨lA.trans (.of_keep fun b o e => Heap.get?_push_of_some _ (Heap.get?_push_of_some _ e)), htk, nL, ?_, ?_, Heap.get?_push_of_some _ (Heap.get?_push_of_some _ ho1), 0, Heap.get?_push_size _ rfl⟩
    · rw [hkS]; exact Ext.back hl0.ext (get_none_of_size (Nat.le_succ _))
    · rw [hkS]; exact Nat.ne_of_gt (Nat.lt_succ_of_lt ha)
  generalize ((s.heap.update L (Obj.mapSeq fun _ => (#[] : Array Value))).push (seqObj "tuple" vs.toArray 0)).objs.size = kS at W0 ⊢
  show wpAny κ.M A (ksk_rest L f false vs.toArray e1 (.ref kS)) P E { s with heap := ((s.heap.update L (Obj.mapSeq fun _ => (#[] : Array Value))).push (seqObj "tuple" vs.toArray 0)).push (seqObj "list" #[] 0) }
  generalize ({ s with heap := ((s.heap.update L (Obj.mapSeq fun _ => (#[] : Array Value))).push (seqObj "tuple" vs.toArray 0)).push (seqObj "list" #[] 0) } : Shared) = s2 at W0 ⊢
  clear lA s1 ho1 hkS ho ha hl0 htk
  unfold ksk_rest
  refine wpAny_bind (wpAny_rule ?_)
  first
    | rw [List.forIn_toArray]
    | (rw [← Array.forIn_toList]; simp only [List.toList_toArray])
    | rw [← Array.forIn_toList]
  refine wpAny_bind (ksk_fold (fun i s' => ∃ keys, keys.size = i ∧ Two2 κ s₀ L kS e1 keys s' ∧ KeysAre KP keys s'.heap) vs 0 s2 ⟨#[], rfl, W0, fun i u e => by simp at e⟩ ?step ?done)
  case step =>
    rintro j x s' hx ⟨keys, hsz, W, KA⟩
    simp only [Nat.zero_add] at hsz ⊢
    have hj : j < vs.length := (List.getElem?_eq_some_iff.mp hx).1
    refine wpAny_bind (wpAny_attempt (wpAny_mono (wpAny_toks_of (n := 1) W.tk (turn j x s' hx W.l W.tk)) (fun u s'' he => ?_) fun _ _ hF => hF.2.elim))
    refine Classical.byContradiction fun nay => ?_
    obtain ⟨tk2, kpu, l2⟩ := he
    refine nay ?_
    clear nay
    have W2 := W.on l2 tk2
    try dsimp only
    obtain ⟨ek, hk2⟩ := W2.hk
    have s3 := Heap.SameBut.update s''.heap kS (Obj.mapSeq (·.push u))
    obtain ⟨c2, hc2⟩ : ∃ c2, (s''.heap.update kS (Obj.mapSeq (·.push u))).get? kS = some (seqObj "list" (keys.push u) c2) := ⟨_, get?_update_seq hk2 (·.push u)⟩
    refine wpAny_bind (listUpdate_at hk2 rfl ?_ (by rw [sizeLine_eq]; omega) (Nat.le_trans (Nat.le_of_eq (Array.size_push ..)) (by rw [sizeLine_eq]; omega)))
    refine wpAny_pure ⟨rfl, keys.push u, by rw [Array.size_push, hsz], ⟨W2.l.turn W2.nk s3 (calm_list hk2 rfl s3), tk2, W2.nL, W2.nk, W2.ne, (s3.2 L W2.ne.symm).trans W2.hL, c2, hc2⟩, fun i v e => ?_⟩
    have kl := SameBut.kl hk2 rfl s3
    rw [Array.getElem?_push] at e
    split at e
    · rename_i q
      cases e
      rw [q, hsz]
      exact kp _ _ _ _ kl kpu
    · exact kp _ _ _ _ kl (kp _ _ _ _ (Ext.kl l2.ext) (KA i v e))
  case done =>
    rintro s' ⟨keys, hsz, W, KA⟩
    simp only [Nat.zero_add] at hsz
    obtain ⟨ek, hk2⟩ := W.hk
    try dsimp only
    refine wpAny_bind (listItems_at hk2 rfl ?_)
    show wpAny κ.M A (ksk_end L false vs.toArray e1 (.ref kS) keys) P E s'
    unfold ksk_end
    simp only [Bool.false_eq_true, if_false]
    have hzs : (keys.zip vs.toArray).size = vs.length := by rw [Array.size_zip, hsz, List.size_toArray, Nat.min_self]
    have tail : ∀ (st : SortSt) (s3 : Shared) (out : List Nat), Two2 κ s₀ L kS e1 keys s3 → arrOf st = (out.map (kas_item (keys.zip vs.toArray))).toArray → out.length = vs.length → failedOf st = none → (sortP vs.length lt = out) → wpAny κ.M A (ksk_tail L false e1 (.ref kS) st) P E s3 := fun st s3 out W3 ha hol hf hso => by
      obtain ⟨ek3, hk3⟩ := W3.hk
      have t1 := Heap.SameBut.update s3.heap kS (Obj.mapSeq fun _ => (#[] : Array Value))
      have L1 : (s3.heap.update kS (Obj.mapSeq fun _ => (#[] : Array Value))).get? L = some (seqObj "list" #[] e1) := (t1.2 L W3.ne.symm).trans W3.hL
      have hmap : (arrOf st).map (·.2) = (out.map fun i => vs.getD i .none).toArray := by
        apply Array.toList_inj.mp
        rw [ha]
        simp only [List.map_toArray, List.map_map]
        refine List.map_congr_left fun i _ => ?_
        show (kas_item (keys.zip vs.toArray) i).2 = vs.getD i .none
        unfold kas_item
        by_cases hi : i < vs.length
        · have hi2 : i < (keys.zip vs.toArray).size := by omega
          rw [Array.getD_eq_getD_getElem?, Array.getElem?_eq_getElem hi2]
          simp [hi]
        · have hi2 : ¬ i < (keys.zip vs.toArray).size := by omega
          rw [Array.getD_eq_getD_getElem?, Array.getElem?_eq_none (Nat.le_of_not_lt hi2)]
          simp [Nat.le_of_not_lt hi]
      unfold ksk_tail
      try dsimp only
      refine wpAny_bind (listUpdate_at hk3 rfl ?_ (by rw [hsz, sizeLine_eq]; omega) (Nat.zero_le _))
      refine wpAny_bind (wpAny_letGo ?_)
      refine wpAny_bind (seqEpoch_at L1 rfl ?_)
      rw [hmap]
      simp only [Bool.false_eq_true, if_false]
      refine wpAny_bind (listUpdate_at L1 rfl ?_ (Nat.zero_le _) (Nat.le_trans (Nat.le_of_eq (by rw [List.size_toArray, List.length_map, hol])) (by rw [sizeLine_eq]; omega)))
      rw [hf]
      simp only [bne_self_eq_false, Bool.false_eq_true, if_false]
      have t2 := Heap.SameBut.update (s3.heap.update kS (Obj.mapSeq fun _ => (#[] : Array Value))) L (Obj.mapSeq fun _ => (out.map fun i => vs.getD i .none).toArray)
      obtain ⟨c2, hc2⟩ : ∃ c2, ((s3.heap.update kS (Obj.mapSeq fun _ => (#[] : Array Value))).update L (Obj.mapSeq fun _ => (out.map fun i => vs.getD i .none).toArray)).get? L = some (seqObj "list" ((out.map fun i => vs.getD i .none).toArray) c2) := ⟨_, get?_update_seq L1 fun _ => (out.map fun i => vs.getD i .none).toArray⟩
      refine wpAny_pure (hq _ c2 ((W3.l.turn (tk := s3.toks) W3.nk t1 (calm_list hk3 rfl t1)).turn (s' := { s3 with heap := s3.heap.update kS (Obj.mapSeq fun _ => (#[] : Array Value)) }) W3.nL t2 (calm_list L1 rfl t2)) W3.tk ?_)
      rw [hso]; exact hc2
    by_cases h2 : vs.length < 2
    · have h2' : vs.toArray.size < 2 := by rw [List.size_toArray]; exact h2
      rw [if_pos h2', if_pos h2']
      refine wpAny_bind (wpAny_pure ?_)
      rw [StateT.run_pure]
      refine wpAny_bind (wpAny_pure ?_)
      try dsimp only
      refine tail _ s' (List.range vs.length) W ?_ (List.length_range) rfl (by unfold sortP; rw [if_pos h2])
      show keys.zip vs.toArray = _
      have := kas_range (keys.zip vs.toArray)
      rw [hzs] at this
      exact this.symm.trans (Array.toList_inj.mp (by simp))
    · have h2' : ¬ vs.toArray.size < 2 := by rw [List.size_toArray]; exact h2
      rw [if_neg h2', if_neg h2']
      have hok' := hok.resolve_right h2
      have hkeys : keys = keys.toList.toArray := (Array.toArray_toList (xs := keys)).symm
      have KP' : ∀ i v, keys.toList[i]? = some v → KP i v s'.heap := fun i v e => KA i v (by rw [← Array.getElem?_toList]; exact e)
      have kind : ∀ Q : SortKind → Shared → Prop, Q oneType' s' → wpAny κ.M A (keyKind' keys) Q E s' := fun Q hQ => by
        rw [hkeys]
        refine kas_kind (T := T) (by rw [Array.length_toList]; omega) (fun v hv => ?_) hT1 hT2 hQ
        obtain ⟨i, hi⟩ := List.mem_iff_getElem?.mp hv
        exact ty i v s' W.l (KP' i v hi)
      refine wpAny_bind (kind _ ?_)
      have est : SortSt.mk' oneType' (keys.zip vs.toArray) #[] 7 none = kas_st oneType' (keys.zip vs.toArray) (List.toArray (List.range vs.length)) := by
        have e := kas_range (keys.zip vs.toArray)
        rw [hzs] at e
        show SortSt.mk' oneType' (keys.zip vs.toArray) #[] 7 none = SortSt.mk' oneType' ((List.toArray (List.range vs.length)).map (kas_item (keys.zip vs.toArray))) #[] 7 none
        rw [e]
      have item : ∀ i, i < vs.length → ∃ u, keys[i]? = some u ∧ (kas_item (keys.zip vs.toArray) i).1 = u := fun i hi => by
        have hi2 : i < (keys.zip vs.toArray).size := by omega
        have hi3 : i < keys.size := by omega
        refine ⟨keys[i], Array.getElem?_eq_getElem hi3, ?_⟩
        unfold kas_item
        rw [Array.getD_eq_getD_getElem?, Array.getElem?_eq_getElem hi2]
        simp
      have run := kas_runs (prog := κ.prog) (w := κ.w) (A := A) (E := E) (κ := oneType') (it := keys.zip vs.toArray) (n := vs.length) (s := s') (Q := fun _ st' s3 => ∃ p' : Array Nat, p' = runP lt (kas_sort vs.length) ∧ p'.size = vs.length ∧ arrOf st' = p'.map (kas_item (keys.zip vs.toArray)) ∧ failedOf st' = none ∧ Two2 κ s₀ L kS e1 keys s3) (G := fun p' s3 => p' = runP lt (kas_sort vs.length) ∧ Two2 κ s₀ L kS e1 keys s3)
        (by omega) h64 (fun p' st' s3 a1 a2 a3 a4 => ⟨p', a4.1, a1, a2, a3, a4.2⟩)
        (kasWp_run (n := vs.length) (lt := lt) (J := fun s3 => Two2 κ s₀ L kS e1 keys s3 ∧ KeysAre KP keys s3.heap) (fun i j s3 C hi hj J3 hC => ?_) _ s' hok' ⟨W, KA⟩ fun s3 J3 => ⟨rfl, J3.1⟩)
      · rw [← est] at run
        refine wpAny_bind (wpAny_mono run ?_ fun _ _ e => e)
        rintro ⟨⟨⟩, st'⟩ s3 ⟨p', hp, hps, har, hf, W3⟩
        refine tail st' s3 p'.toList W3 ?_ (by rw [Array.length_toList, hps]) hf (by unfold sortP; rw [if_neg h2, hp])
        rw [har]
        exact Array.toList_inj.mp (by simp)
      · refine Classical.byContradiction fun nay => ?_
        obtain ⟨u, hu, eu⟩ := item i hi
        obtain ⟨v, hv, ev⟩ := item j hj
        refine nay ?_
        clear nay
        unfold kas_cmp
        rw [eu, ev]
        refine wpAny_mono (wpAny_toks_of (n := 1) J3.1.tk (ask i j u v s3 hi hj J3.1.l J3.1.tk (J3.2 i u hu) (J3.2 j v hv))) (fun b s4 q => ?_) fun _ _ z => z.2
        refine Classical.byContradiction fun nay => ?_
        obtain ⟨tk4, rfl, l4⟩ := q
        refine nay ?_
        clear nay
        exact hC s4 ⟨J3.1.on l4 tk4, fun i' u' e' => kp _ _ _ _ (Ext.kl l4.ext) (J3.2 i' u' e')⟩
end
end Mine
end
section
open PySem PySem.W PySem.W.X PyProof.Rows PySem.Calls
set_option Elab.async false
set_option maxRecDepth 100000
set_option maxHeartbeats 1000000
namespace Mine
variable {κ : Cx} {n : Nat} {env : Env} {h : Heap} {A : Around} {E : Value → Shared → Prop} {s s₀ : Shared} {V : Addr → Prop} {δ : Del}
/-! ## sorted(.., key = ..) over ints -/
theorem collect_range' {r : Addr} {k : Nat} {t u v : Tok} {Q : List Value → Shared → Prop} (hh : A.handled = none) (hr : IsRange s.heap r 0 k 1 t u v) (hk : k ≤ 1000000)
    (hQ : ∀ vs h' tk, (∀ b o, s.heap.get? b = some o → h'.get? b = some o) → IntsAre vs ((List.range k).map fun i : Nat => (i : Int)) → Q vs { s with heap := h', toks := tk }) : wpAny κ.M A (collect (.ref r)) Q E s := by
  have hsz : Builtin.Range.rangeSize 0 k 1 = k := by
    rw [rangeSize_one]
    split <;> omega
  have hsm : Builtin.Range.small 0 k 1 = true := small_one (by omega) (by omega) (by omega) (by omega)
  unfold collect
  refine wpAny_bind (wpAny_runValue (codeAny_builtin PySem.F.entry_proto_collect ?_))
  rw [Around.under_plainId PySem.F.plain_proto_collect _]
  show wpAny _ A.in1 (newList [] >>= fun l => again (.builtin "list.__iadd__" ⟨[l, .ref r], []⟩)) _ _ s
  refine wpAny_bind (wpAny_newObj_type ?_)
  refine wpAny_pure ⟨plainId_quiet PySem.F.plain_list_iadd _, codeAny_builtin PySem.F.entry_list_iadd ?_⟩
  rw [Around.under_plainId PySem.F.plain_list_iadd _]
  have hS₁ : (s.heap.push { cls := .type "list", data := .seq ([] : List Value).toArray }).get? s.heap.objs.size = some { cls := .type "list", data := .seq #[] 0 } := Heap.get?_push_size _ rfl
  show wpAny _ A.in1 (Builtin.List.listExtendWith (.ref s.heap.objs.size) (.ref r) (.ref s.heap.objs.size)) _ _ { s with heap := s.heap.push { cls := .type "list", data := .seq ([] : List Value).toArray } }
  let R' : Result → Shared → Prop := fun r s' => r = .ok (.ret (.ref s.heap.objs.size)) ∧ ∃ h' tk acc' c', s' = { s with heap := h', toks := tk } ∧ (∀ b o, s.heap.get? b = some o → h'.get? b = some o) ∧ h'.get? s.heap.objs.size = some { cls := .type "list", dict := none, data := .seq acc' c', slots := #[] } ∧ ItemsOf (fun i v => ∃ t, v = .int (0 + (i : Int) * 1) t) acc' k
  have base := wpAny_extend_range (prog := κ.prog) (w := κ.w) (A := A) (R := R') (s := { s with heap := s.heap.push { cls := .type "list", data := .seq ([] : List Value).toArray } }) (n := k) hh (Heap.get?_push_of_some _ hr) hsm hsz (by omega) s.heap.objs.size (.ref s.heap.objs.size) 0 hS₁ fun h' tk acc' c' hkeep hS' hacc =>
    ⟨rfl, h', tk, acc', c', rfl, fun b o e => hkeep b o (Nat.ne_of_lt (Heap.lt_size e)) (Heap.get?_push_of_some _ e), hS', hacc⟩
  suffices last : ∀ s', R' (.ok (.ret (.ref s.heap.objs.size))) s' → wpAny κ.M A (load s.heap.objs.size >>= fun o => match o.data with
      | .seq xs _ => pure xs.toList
      | _ => unsupported "internal:collect") Q E s' by
    refine wpAny_mono base (fun f s' q => ?_) (fun e s' q => absurd q.1 (fun z => by cases z))
    cases f with
    | done f => obtain ⟨e, r⟩ := id q; cases e; exact last s' q
    | again c' => exact ⟨q.1, codeAny_mono q.2 fun r s'' q' => by obtain ⟨e, _⟩ := id q'; cases e; exact last s'' q'⟩
  intro s' q
  refine Classical.byContradiction fun nay => ?_
  obtain ⟨_, h', tk, acc', c', rfl, hkeep, hS', hacc⟩ := q
  refine nay ?_
  clear nay
  refine wpAny_bind (wpAny_load hS' ?_)
  refine wpAny_pure (hQ _ _ _ hkeep ?_)
  obtain ⟨hsz', hit⟩ := hacc
  have gen : ∀ (l : List Value) (m : Nat), (∀ i v, l[i]? = some v → ∃ t, v = Value.int ((m + i : Nat) : Int) t) → IntsAre l ((List.range l.length).map fun i : Nat => ((m + i : Nat) : Int)) := fun l => by
    induction l with
    | nil => intro m _; exact .nil
    | cons x l ih =>
      intro m hm
      obtain ⟨t, rfl⟩ := hm 0 x rfl
      rw [List.length_cons, List.range_succ_eq_map, List.map_cons, List.map_map]
      refine .cons _ t ?_
      have := ih (m + 1) fun i v e => by
        obtain ⟨t', e'⟩ := hm (i + 1) v (by simpa using e)
        exact ⟨t', e'.trans (by rw [show ((m + (i + 1) : Nat) : Int) = ((m + 1 + i : Nat) : Int) by omega])⟩
      refine (show (List.range l.length).map ((fun i : Nat => ((m + i : Nat) : Int)) ∘ Nat.succ) = (List.range l.length).map (fun i : Nat => ((m + 1 + i : Nat) : Int)) from List.map_congr_left fun i _ => ?_) ▸ this
      show ((m + (i + 1) : Nat) : Int) = _
      push_cast; omega
  have g := gen acc'.toList 0 fun i v e => by
    obtain ⟨t', e'⟩ := hit i v (by rw [← Array.getElem?_toList]; exact e)
    exact ⟨t', e'.trans (by rw [show (0 : Int) + (i : Int) * 1 = ((0 + i : Nat) : Int) by omega])⟩
  rw [Array.length_toList, hsz'] at g
  simpa using g
/-- what sorted does, its key by any road -/
theorem wpa_sorted {src T : Value} {f : Addr} {ns : List Int} {KP : Nat → Value → Heap → Prop} {lt : Nat → Nat → Bool} (y : At κ h V s) (h64 : ns.length < 64) (hok : okT ns.length (kas_sort ns.length) = true ∨ ns.length < 2)
    (hin : ∀ i ∈ sortP ns.length lt, i < ns.length)
    (hcol : ∀ (Q : List Value → Shared → Prop), (∀ vs h' tk, (∀ b o, s.heap.get? b = some o → h'.get? b = some o) → IntsAre vs ns → Q vs { s with heap := h', toks := tk }) → wpAny κ.M A.in1 (collect src) Q (fun _ _ => False) s)
    (ha1 : argsOk "sorted" ⟨[src], [(Str.ofString "key", .ref f)]⟩)
    (kp : ∀ i u h h', Kl h h' → KP i u h → KP i u h')
    (turn : ∀ (i : Nat) k t s', ns[i]? = some k → Lt κ.T NoX s s' → 0 < s'.toks → wpAny κ.M A.in1.in1 (call (.ref f) [.int k t]) (fun u s'' => KP i u s''.heap ∧ Lt κ.T NoX s' s'') (fun _ _ => False) s')
    (ty : ∀ i u s', Lt κ.T NoX s s' → KP i u s'.heap → Looks κ.M s'.heap (typeOf u) T) (hT1 : (T != Value.type "tuple") = true) (hT2 : (T == T) = true)
    (ask : ∀ i j u v s', i < ns.length → j < ns.length → Lt κ.T NoX s s' → 0 < s'.toks → KP i u s'.heap → KP j v s'.heap → wpAny κ.M A.in1.in1 (keyLt' oneType' u v) (fun b s'' => b = lt i j ∧ Lt κ.T NoX s' s'') (fun _ _ => False) s') :
    Gv κ V A (call (.builtin "sorted") [src] [(Str.ofString "key", .ref f)]) s (Is (.list (nums ((sortP ns.length lt).map fun i => ns.getD i 0)))) := by
  refine call_function_entry_kw kind_sorted plain_sorted entry_sorted ha1 ?_
  unfold Builtin.«sorted»
  refine wpAny_bind (m := checkCount "sorted" 1 1 _) (wpAny_pure ?_)
  refine wpAny_bind (wpAny_mono (wpAny_toks_of (n := 1) y.tk (hcol (fun vs s1 => IntsAre vs ns ∧ Lt κ.T NoX s s1) fun vs h' tk k hi => ⟨hi, .of_keep k⟩)) (fun vs s1 q => ?_) fun _ _ z => z.2.elim)
  refine Classical.byContradiction fun nay => ?_
  obtain ⟨tk1, hi, l1⟩ := q
  refine nay ?_
  clear nay
  have hlen := hi.length
  refine wpAny_bind (wpAny_newList ?_ (by rw [sizeLine_eq]; omega))
  have freshL : s.heap.get? s1.heap.objs.size = none := Ext.back l1.ext (get_none_of_size (Nat.le_refl _))
  have hoL : (s1.heap.push (seqObj "list" vs.toArray 0)).get? s1.heap.objs.size = some (seqObj "list" vs.toArray 0) := Heap.get?_push_size _ rfl
  have l2 : Lt κ.T NoX s { s1 with heap := s1.heap.push (seqObj "list" vs.toArray 0) } := l1.trans .newObj
  refine wpAny_bind (wpAny_holding (wpAny_call_entry_kw slot_list_sort ⟨_, hoL, rfl⟩ entry_list_sort ?body (ksk_l1 _ _)))
  rw [ksk_t1]
  refine sort_tree (s₀ := s) (s := { s1 with heap := s1.heap.push (seqObj "list" vs.toArray 0) }) (KP := KP) (lt := lt) (T := T) l2 tk1 freshL hoL (by omega) (by rw [hlen]; exact hok) kp (fun i v s' hv l t => ?_) ty hT1 hT2 (fun i j u v s' hi hj l t p q => ask i j u v s' (by omega) (by omega) l t p q) fun s' c l t hL => ?_
  · obtain ⟨k, t', rfl, hk⟩ : ∃ k t', v = .int k t' ∧ ns[i]? = some k := by
      have d := nums_of (V := Tr) (h := s1.heap) hi
      refine Classical.byContradiction fun nay => ?_
      obtain ⟨dd, e1, e2⟩ := d.get' hv
      refine nay ?_
      clear nay
      simp only [List.getElem?_map, Option.map_eq_some_iff] at e1
      refine Classical.byContradiction fun nay => ?_
      obtain ⟨k, ek, rfl⟩ := e1
      refine nay ?_
      clear nay
      cases e2
      exact ⟨k, _, rfl, ek⟩
    exact turn i k t' s' hk l t
  · refine ⟨_, rfl, wpAny_pure ⟨_, rfl, ?_, l⟩⟩
    refine .list (items := ((sortP vs.length lt).map fun i => vs.getD i .none).toArray) (y.vis _ (.inr freshL)) ⟨c, hL⟩ ?_
    rw [hlen]
    have d := nums_of (V := V) (h := s'.heap) hi
    have : ∀ l : List Nat, (∀ i ∈ l, i < ns.length) → Dns V s'.heap (l.map fun i => vs.getD i .none) (nums (l.map fun i => ns.getD i 0)) := fun l => by
      induction l with
      | nil => intro _; exact .nil
      | cons i l ih =>
        intro hl
        refine .cons ?_ (ih fun j hj => hl j (List.mem_cons_of_mem _ hj))
        have hi' := hl i (List.mem_cons_self ..)
        have e : (nums ns)[i]? = some (.int (ns.getD i 0)) := by simp [hi']
        refine Classical.byContradiction fun nay => ?_
        obtain ⟨v, hv, dv⟩ := d.get e
        refine nay ?_
        clear nay
        show Dn V s'.heap (vs.getD i Value.none) _
        rw [show vs.getD i Value.none = v by simp [List.getD, hv]]
        exact dv
    simpa using this (sortP ns.length lt) hin
end Mine
end
section
open PySem PySem.W PySem.W.X PyProof.Rows PySem.Calls
set_option Elab.async false
set_option maxRecDepth 100000
set_option maxHeartbeats 1000000
namespace Mine
variable {κ : Cx} {n : Nat} {env : Env} {h : Heap} {A : Around} {E : Value → Shared → Prop} {s s₀ : Shared} {V : Addr → Prop} {δ : Del}
/-- a class K whose comparison answers cmp, on the ints ns -/
noncomputable def KeyK (κ : Cx) (n : Nat) (ns : List Int) (cmp : Int → Int → Int) : Pr := fun _ u h => ∃ a fl, u = .ref a ∧ IsK h a (.ref fl) ∧ IsFn h fl ∧ ∀ i ∈ ns, ∀ j ∈ ns, Fun κ n h (.ref fl) (Iss [.int i, .int j]) (Is (.int (cmp i j)))
theorem KeyK.per {ns : List Int} {cmp : Int → Int → Int} : Per κ (KeyK κ n ns cmp) := fun _ _ _ _ k zz => by obtain ⟨a, fl, e, i, f, l⟩ := zz; exact ⟨a, fl, e, i.ext k, f.ext k, fun x hx y hy => (l x hx y hy).up k⟩
theorem IsK.lt {a : Addr} {f : Value} (K : IsK h a f) : ∃ N D cell fi m fl, KAt h a f N D cell fi m ∧ m "__lt__" = some (.ref fl) ∧ KMeth h cell .Lt fl := by
  refine Classical.byContradiction fun nay => ?_
  obtain ⟨N, D, cell, fi, m, K0⟩ := K
  obtain ⟨fl, e, M⟩ := K0.ops "__lt__" .Lt (by simp [mops])
  refine nay ?_
  clear nay
  exact ⟨N, D, cell, fi, m, fl, K0, e, M⟩
noncomputable def ltK (ns : List Int) (cmp : Int → Int → Int) (i j : Nat) : Bool := decide (cmp (ns.getD i 0) (ns.getD j 0) < 0)
theorem KeyK.sorted {src : Value} {a : Addr} {ns : List Int} {cmp : Int → Int → Int} (b : Base κ h) (y : At κ h V s) (K : KeyK κ n ns cmp V (.ref a) s.heap) (rm : Rm (n + 4) A) (h64 : ns.length < 64) (hok : okT ns.length (kas_sort ns.length) = true ∨ ns.length < 2)
    (hin : ∀ i ∈ sortP ns.length (ltK ns cmp), i < ns.length)
    (hcol : ∀ (Q : List Value → Shared → Prop), (∀ vs h' tk, (∀ b o, s.heap.get? b = some o → h'.get? b = some o) → IntsAre vs ns → Q vs { s with heap := h', toks := tk }) → wpAny κ.M A.in1 (collect src) Q (fun _ _ => False) s)
    (ha1 : argsOk "sorted" ⟨[src], [(Str.ofString "key", .ref a)]⟩) :
    Gv κ V A (call (.builtin "sorted") [src] [(Str.ofString "key", .ref a)]) s (Is (.list (nums ((sortP ns.length (ltK ns cmp)).map fun i => ns.getD i 0)))) := by
  refine Classical.byContradiction fun nay => ?_
  obtain ⟨a', fl, e, ik, hfn, lam⟩ := K
  cases e
  refine nay ?_
  clear nay
  have bs := b.ext y.ext
  have rm2 : Rm (n + 2) A.in1.in1 := rm.in1.in1
  have at' : ∀ s', Lt κ.T NoX s s' → 0 < s'.toks → At κ s.heap Tr s' := fun s' l t => (At.self y.tk y.ok).on l t
  refine wpa_sorted (T := .ref a) (KP := fun i u h' => ∃ x t, u = .ref x ∧ KInst h' x a (.int (ns.getD i 0) t)) y h64 hok hin hcol ha1 ?_ ?_ ?_ rfl (by simp) ?_
  · rintro i u h1 h2 k ⟨x, t, rfl, I⟩
    obtain ⟨dx, e4⟩ := I.ex
    exact ⟨x, t, rfl, dx, k x _ e4 (fun z => by cases z) (fun z => by cases z)⟩
  · intro i k t s' hk l tk
    have z := fun_K (κ := κ) (n := n) (h := s.heap) (d := .int k) bs ik A.in1.in1 s' Tr [.int k t] (rm2.le (by omega)) (at' s' l tk) (.cons (.int k t) .nil)
    refine wpAny_mono z (fun u s'' q => ?_) fun _ _ f => f
    refine Classical.byContradiction fun nay => ?_
    obtain ⟨⟨x, v, rfl, _, I, dv⟩, l2⟩ := q
    cases dv with | int _ t' => ?_
    refine nay ?_
    clear nay
    have hk' : ns.getD i 0 = k := by simp [List.getD, hk]
    rw [← hk'] at I
    exact ⟨⟨x, t', rfl, I⟩, l2⟩
  · rintro i u s' l ⟨x, t, rfl, I⟩
    exact I.type
  · rintro i j u v s' hi hj l tk ⟨x, t, rfl, I⟩ ⟨x', t', rfl, J⟩
    have ik' := ik.ext l.ext
    refine Classical.byContradiction fun nay => ?_
    obtain ⟨N, D, cell, fi, m, fo, K0, hl, M⟩ := ik'.lt
    refine nay ?_
    clear nay
    have mem : ∀ i, i < ns.length → ns.getD i 0 ∈ ns := fun i hi => by simp [List.getD, hi]
    have z := fun_meth (κ := κ) (n := n) (nm := "__lt__") (d := .int (ns.getD i 0)) (e := .int (ns.getD j 0)) (by simp [mops]) (bs.ext l.ext) M K0.ce (hfn.ext l.ext) ik' I (fun _ _ => .int _ _) rfl ik' J (fun _ _ => .int _ _) rfl ((lam _ (mem i hi) _ (mem j hj)).up l.ext) A.in1.in1 s' Tr [.ref x, .ref x'] (rm2.le (by omega)) (At.self tk (l.ok y.ok)) (.cons (.val _) (.cons (.val _) .nil))
    refine k_lt rm2.units K0 I hl M (wpAny_mono z (fun r s'' q => ?_) fun _ _ f => f)
    refine Classical.byContradiction fun nay => ?_
    obtain ⟨p, l2⟩ := q
    cases p
    refine nay ?_
    clear nay
    exact ⟨_, rfl, rfl, l2⟩
end Mine
end
section
open PySem PySem.W PySem.W.X PyProof.Rows PySem.Calls
set_option Elab.async false
set_option maxRecDepth 100000
set_option maxHeartbeats 1000000
namespace Mine
variable {κ : Cx} {n : Nat} {env : Env} {h : Heap} {A : Around} {E : Value → Shared → Prop} {s s₀ : Shared} {V : Addr → Prop} {δ : Del}
/-! ## sorted(range(k), key = cmp_to_key(lambda ..)) -/
noncomputable def upInts (k : Nat) : List Int := (List.range k).map fun i : Nat => (i : Int)
theorem ev_sortedK {e ke : Expr} {p kp pos : Pos} {k : Nat} {cmp : Int → Int → Int} (F : Fd κ h env δ) (bl : Blt κ "sorted" (.builtin "sorted")) (a : Ev κ (n + 4) env h e (Rg k)) (kk : Ev κ (n + 4) env h ke (KeyK κ n (upInts k) cmp)) (h64 : k < 64) (hok : okT k (kas_sort k) = true ∨ k < 2) (hin : ∀ i ∈ sortP k (ltK (upInts k) cmp), i < k)
    (hk : env.kindOf "sorted" = some .globalImplicit := by rfl)
    (he : ∀ pos, backTo pos (starEach [e] env) = (false, eval e env) :: backTo pos (starEach [] env) := by intro _; rfl)
    (hp : ∀ pos, (backTo pos (starEach [e] env)).any (·.1) = false := by intro _; rfl)
    (hall : ∀ pos, (backToKw pos (keywordEach [⟨some "key", ke, kp⟩] env)).all (·.1.isSome) = true := by intro _; rfl)
    (hkw : ∀ pos, (backToKw pos (keywordEach [⟨some "key", ke, kp⟩] env)).any (·.1.isNone) = false := by intro _; rfl)
    (hnm : ∀ pos (v : Value), ((backToKw pos (keywordEach [⟨some "key", ke, kp⟩] env)).filterMap (·.1)).zip [v] = [(Str.ofString "key", v)] := by intro _ _; rfl)
    (hev : ∀ A Q E s, wpAny κ.M A (eval (.Name "sorted" p) env) (fun f s₁ => wpAny κ.M A (callWith pos f [] (backTo pos (starEach [e] env)) (backToKw pos (keywordEach [⟨some "key", ke, kp⟩] env))) Q E s₁) E s → wpAny κ.M A (eval (.Call (.Name "sorted" p) [e] [⟨some "key", ke, kp⟩] pos) env) Q E s := by intro _ _ _ _ z; exact wpAny_bind z) :
    Ev κ (n + 4) env h (.Call (.Name "sorted" p) [e] [⟨some "key", ke, kp⟩] pos) (Is (.list (nums ((sortP k (ltK (upInts k) cmp)).map fun i => (upInts k).getD i 0)))) := by
  intro A s V rm y
  refine hev _ _ _ _ (wpAny_Name (F.blt bl hk A _ _ s y.ext ?_) (by decide))
  refine callWith_kw ?_ (he pos) (hp pos) (hall pos) (hkw pos)
  have z := fun Q k => (evl_one a rg_per he).go (A := A) (s := s) (V := V) (Q := Q) (E := fun _ _ => False) pos rm y k
  refine z _ fun vs s1 pv l1 y1 => ?_
  refine Classical.byContradiction fun nay => ?_
  obtain ⟨v, rfl, pv⟩ := pv
  refine nay ?_
  clear nay
  refine kws_cons (kk.go rm y1 fun u s2 pu l2 y2 => kws_nil ?_)
  rw [hnm]
  have pv2 := rg_per (κ := κ) V v _ _ l2.ext pv
  refine Classical.byContradiction fun nay => ?_
  obtain ⟨r, t, x, w', rfl, hr⟩ := pv2
  obtain ⟨a', fl, rfl, _⟩ := id pu
  refine nay ?_
  clear nay
  have hl : (upInts k).length = k := by simp [upInts]
  have := KeyK.sorted (κ := κ) (n := n) (h := h) (src := .ref r) (ns := upInts k) (cmp := cmp) (V := V) (A := A) F.base y2 pu rm (by rw [hl]; exact h64) (by rw [hl]; exact hok) (by rw [hl]; exact hin) (fun Q hQ => collect_range' rm.hd hr (by omega) hQ) (ksk_s1 _ _)
  rw [hl] at this
  exact this.after (l1.trans l2)
/-- a comparison of ints -/
noncomputable def LamP (κ : Cx) (n : Nat) (ns : List Int) (cmp : Int → Int → Int) : Pr := fun _ u h => ∃ fl, u = .ref fl ∧ IsFn h fl ∧ ∀ i ∈ ns, ∀ j ∈ ns, Fun κ n h (.ref fl) (Iss [.int i, .int j]) (Is (.int (cmp i j)))
theorem LamP.per {ns : List Int} {cmp : Int → Int → Int} : Per κ (LamP κ n ns cmp) := fun _ _ _ _ k zz => by obtain ⟨fl, e, f, l⟩ := zz; exact ⟨fl, e, f.ext k, fun x hx y hy => (l x hx y hy).up k⟩
theorem fun_cmpK {ns : List Int} {cmp : Int → Int → Int} {f : Addr} {m : Nat} (c : ∀ v, Fun κ m h (.ref f) (Iss [.val v]) (fun V u h' => ∃ a, u = .ref a ∧ IsKV V h' a v)) : Fun κ m h (.ref f) (One (LamP κ n ns cmp)) (KeyK κ n ns cmp) := by
  rintro A s V vs rm y ⟨v, rfl, fl, rfl, hf, lam⟩
  refine wpAny_mono (c (.ref fl) A s V [.ref fl] rm y (.cons (.val _) .nil)) (fun u s' q => ?_) fun _ _ z => z
  refine Classical.byContradiction fun nay => ?_
  obtain ⟨⟨a, rfl, ik⟩, l⟩ := q
  refine nay ?_
  clear nay
  exact ⟨⟨a, fl, rfl, ik.isK, hf.ext l.ext, fun i hi j hj => (lam i hi j hj).up l.ext⟩, l⟩
/-- a lambda that the frame has made, called with data -/
theorem fun_lam {h' : Heap} {f : Addr} {qual : Str} {params : Arguments} {e : Expr} {scope : Scope} {cl : List (Str × Addr)} {ctv code pm doc : Value} {xs : List Str} {ds : List Da} {δc : Del} {P : Pr} (F : Fd κ h env δ) (k : Ext κ.T h h')
    (ho : h'.get? f = some (fnObj (fnK "<lambda>" qual params (.expr e) scope cl ctv code pm doc))) (hc : CodeOk h' code qual)
    (hcl : ∀ x a, cl.lookup x = some a → env.cells.lookup x = some a ∧ env.kindOf x ≠ some .local ∧ (δc.lookup x).isSome = true) (hsub : Sub δc δ)
    (hbind : ∀ vs : List Value, vs.length = ds.length → bindArgs (fnK "<lambda>" qual params (.expr e) scope cl ctv code pm doc) ⟨vs, []⟩ = pure (xs.zip vs))
    (hnd : ∀ vs : List Value, vs.length = ds.length → ∀ x, (xs.zip vs).reverse.lookup x = (xs.zip vs).lookup x)
    (hbody : ∀ C h'', Ext κ.T h' h'' → Fd κ h'' (callEnvK (fnK "<lambda>" qual params (.expr e) scope cl ctv code pm doc) C f) (xs.zip ds ++ δc) → Ev κ n (callEnvK (fnK "<lambda>" qual params (.expr e) scope cl ctv code pm doc) C f) h'' e P)
    (hco : scope.isCoroutine = false := by rfl) (hge : scope.isGenerator = false := by rfl) (hk : scope.kind = .function := by rfl) (hnc : scope.names.all (fun x => !(x.2 == .cell)) = true := by rfl)
    (hloc : xs.all (fun x => scope.names.lookup x == some .local) = true := by rfl) (hfr : δc.all (fun x => !(scope.names.lookup x.1 == some .local)) = true := by rfl) : Fun κ (n + 1) h' (.ref f) (Iss ds) P := by
  refine Classical.byContradiction fun nay => ?_
  obtain ⟨ρ, Fm0, H⟩ := F.ex
  refine nay ?_
  clear nay
  have Fm1 := Fm0.ext k
  refine fun_clo (ρc := ρ) (δc := δc) (F.base.ext k) ⟨⟨_, ho, rfl⟩, hc⟩ (.expr e) rfl rfl hco hge hk hnc hbind hnd hloc hfr (fun x a e0 => ?_) (fun x d e0 => ?_) hbody
  · refine Classical.byContradiction fun nay => ?_
    obtain ⟨e1, e2, e3⟩ := hcl x a e0
    obtain ⟨d, e4⟩ := Option.isSome_iff_exists.mp e3
    obtain ⟨v, e5, _⟩ := H x d (hsub.look x d e4)
    obtain ⟨u, p, r⟩ := Fm1.cl x a e1
    obtain rfl := r v e2 e5
    refine nay ?_
    clear nay
    exact ⟨v, p, .inl e5⟩
  · refine Classical.byContradiction fun nay => ?_
    obtain ⟨v, p, q⟩ := H x d (hsub.look x d e0)
    refine nay ?_
    clear nay
    exact ⟨v, p, q.kv (Ext.kv k)⟩
end Mine
end
section
open PySem PySem.W PySem.W.X PyProof.Rows PySem.Calls
set_option Elab.async false
set_option maxRecDepth 100000
set_option maxHeartbeats 1000000
namespace Mine
variable {κ : Cx} {n : Nat} {env : Env} {h : Heap} {A : Around} {E : Value → Shared → Prop} {s s₀ : Shared} {V : Addr → Prop} {δ : Del} {t : Tx} {lo : Prop}
/-! ## sep.join(elt for x in list) -/
theorem coder_join {b : Tab} {pos : Pos} {scope : Scope} (hT : κ.T = t.tb lo) (hg : t.Good) (hb : b ∈ t.tabs) (hc : env.code = .ref b.c) (hq' : ∀ p, p.line = pos.line → p.col = pos.col → b.q p = b.q pos) (ok : Oks t s.heap) :
    wpAny κ.M A (genexprCode env pos (b.q pos) scope) (fun v s' => CodeOk s'.heap v (b.q pos) ∧ Lt κ.T NoX s s') (fun _ _ => False) s := by
  unfold genexprCode
  exact code_at hc (ok.tb b hb) (fun ctx Q' hQ => wpAny_newCodeX fun c' P' h' tk a1 a2 a3 a4 a5 a6 => hQ c' P' h' tk a1 a2 a3 a4 a5 a6) hq' (fun v ps _ _ _ z => ⟨z, .refl _⟩) fun c' P' h' tk ps tb tb' hf g cs hc' hP' cok _ _ => ⟨cok, Lt.of_grown hT (.inl ⟨b, hb, rfl⟩) g (ok.grown hg hb g cs)⟩
/-- nothing is turned at all -/
noncomputable def strictT : Tb := ⟨fun _ => False, fun _ => True, fun _ _ _ _ => trivial, False⟩
noncomputable def Cx.strict (κ : Cx) : Cx := { κ with T := strictT }
theorem Lt.keeps {s s' : Shared} (l : Lt strictT NoX s s') : Keeps s s' := by
  refine Classical.byContradiction fun nay => ?_
  obtain ⟨hp, g, d, tk, os⟩ := s
  obtain ⟨hp', g', d', tk', os'⟩ := s'
  obtain ⟨e1, e2⟩ := l.same id
  refine nay ?_
  clear nay
  have e3 := l.os
  dsimp only at e1 e2 e3
  subst e1 e2 e3
  refine ⟨hp', tk', rfl, fun b o e => ?_⟩
  rcases l.ext b o (fun f => f) e with z | ⟨z, _⟩
  · exact z
  · exact z.elim
theorem Base.strict (b : Base κ h) : Base κ.strict h := ⟨b.g, b.b, b.lim⟩
theorem passing_all (n : Nat) : passing (fun _ => true) n 0 = List.range n := by
  unfold passing
  rw [List.drop_zero, List.filter_eq_self.mpr fun _ _ => rfl]
theorem ev_joinG {o elt iter : Expr} {x : Str} {px apos gpos pos : Pos} {scope : Scope} {sep : Str} {xs : List Str} {g : Str → Str} {m : Nat} (F : Fd κ h env δ) (bm : Bm κ h) {tb : Tab} (hT : κ.T = t.tb lo) (hlo : lo) (hgd : t.Good) (htb : tb ∈ t.tabs) (hcode : env.code = .ref tb.c) (hqj : tb.q gpos = env.qual ++ "<genexpr>") (hq' : ∀ p, p.line = gpos.line → p.col = gpos.col → tb.q p = tb.q gpos)
    (a : Ev κ n env h o (Is (.str sep))) (b : Ev κ n env h iter (Is (.list (xs.map .str)))) (hn : m + 2 ≤ n) (hz : xs.length ≤ sizeLine) (ok : JoinOk sep (xs.map g) = true) (hge : env.globals = mainGlobals) (hbe : env.builtins = builtinsNs)
    (helt : ∀ C code (i : Nat) xi (s5 : Shared) A', Rm m A' → Ext κ.T h s5.heap → xs[i]? = some xi → Fd κ.strict s5.heap (genEnv scope [] C code builtinsNs env) [(x, .str xi)] → wpAny κ.M A' (eval elt (genEnv scope [] C code builtinsNs env)) (fun w s6 => (∃ u, w = .str (g xi) u) ∧ Lt strictT NoX s5 s6) (fun _ _ => False) s5)
    (hclos : closureFor scope env = pure [] := by rfl) (hco : scope.isCoroutine = false := by rfl) (hcell : ∀ y ∈ scope.names, y.2 ≠ .cell := by decide) (h0 : scope.names.lookup (".0" : Str) = some NameKind.local := by rfl) (hx : scope.names.lookup x = some .local := by rfl) (hkind : scope.kind = .function := by rfl)
    (hs : ∀ x, genFold iter env x = pure x := by intro _; rfl)
    (hb : attributeBase o "join" env (eval o env) = eval o env := by rfl) (hln : (apos.endLine == pos.line) = true := by rfl) (he : backTo pos (starEach [.GeneratorExp elt [⟨.Name x px, iter, [], 0⟩] scope gpos] env) = [(false, eval (.GeneratorExp elt [⟨.Name x px, iter, [], 0⟩] scope gpos) env)] := by rfl) :
    Ev κ n env h (.Call (.Attribute o "join" apos) [.GeneratorExp elt [⟨.Name x px, iter, [], 0⟩] scope gpos] [] pos) (Is (.str (Txt.join sep (xs.map g)))) := by
  intro A s V rm y
  refine wpAny_Call_method1_late hb hln he (a.go rm y fun ov s1 pv l1 y1 => ?_)
  cases pv with | str _ tS => ?_
  refine ⟨"str", "str.join", PySem.F.plainAttrs_str, PySem.F.slot_str_join, PySem.F.type_str_join, typeIs_str _ _ _, fun _ e => (by cases e), callWith_builtin (by rfl) (evalArgs_plain (spliced_cons ?_))⟩
  refine wpAny_GeneratorExp_walksQD rm.hd hco hclos hcell h0 hx hkind rm.depth (wpost fun Q1 E1 hQ1 _ => b.go rm y1 fun xv s2 p2 l2 y2 => ?_) hs
  cases p2 with
  | @list ax items _ va pl r =>
  have hlt : ax < s2.heap.objs.size := by obtain ⟨_, e⟩ := pl; exact Heap.lt_size e
  refine hQ1 _ _ (wpAny_pyIter_list pl.isList ?_)
  clear hQ1
  have l3 : Lt κ.T NoX s2 { s2 with heap := s2.heap.push { cls := .type "list_iterator", data := .fields #[.ref ax, rawInt 0] } } := .newObj
  have y3 := y2.on l3 y2.tk
  refine ⟨(F.base.ext y3.ext).lim, ?_⟩
  have okT : ∀ s' : Shared, κ.T.ok s'.heap → Oks t s'.heap := fun s' z => by rw [hT] at z; exact z
  rw [← hqj]
  refine wpAny_mono (wpAny_toks_of (n := 1) y3.tk (coder_join (κ := κ) (A := A) (env := env) (scope := scope) hT hgd htb hcode hq' (okT _ y3.ok))) (fun code s4 q4 => ?_) fun _ _ z => z.2.elim
  refine Classical.byContradiction fun no => ?_
  refine Classical.byContradiction fun nay => ?_
  obtain ⟨tk4, cok, l4⟩ := q4
  refine nay ?_
  clear nay
  have y4 := y3.on l4 tk4
  have b4 := F.base.ext y4.ext
  refine Classical.byContradiction fun nay => ?_
  obtain ⟨bmA, ob, e1, e2, e3, e4, e5, e6⟩ := bm.ext y4.ext
  refine nay ?_
  clear nay
  refine no ?_
  clear no
  rw [hge, hbe]
  refine wpAny_builtinsFor b4.g e1 e2 e3 e4 e5 e6 ?_
  have Iold : s2.heap.get? s2.heap.objs.size = none := get_none_of_size (Nat.le_refl _)
  have hI4 : s4.heap.get? s2.heap.objs.size = some { cls := .type "list_iterator", data := .fields #[.ref ax, rawInt 0] } := Ext.get l4.ext (Heap.get?_push_size _ rfl) fun z => by cases z
  have pl4 : s4.heap.PlainList ax items := (Ext.kv (V := Tr) (T := κ.T) (l3.trans l4).ext).plain trivial pl
  have hlen : items.size = xs.length := by rw [← Array.length_toList, r.length, List.length_map]
  have itm : ∀ i v, items[i]? = some v → ∃ xi u, xs[i]? = some xi ∧ v = Value.str xi u := fun i v e => by
    refine Classical.byContradiction fun nay => ?_
    obtain ⟨d, h1, h2⟩ := r.get' (i := i) (v := v) (by rw [Array.getElem?_toList]; exact e)
    refine nay ?_
    clear nay
    simp only [List.getElem?_map, Option.map_eq_some_iff] at h1
    refine Classical.byContradiction fun nay => ?_
    obtain ⟨xi, h3, rfl⟩ := h1
    refine nay ?_
    clear nay
    cases h2
    exact ⟨xi, _, h3, rfl⟩
  have lg : Lt κ.T NoX s s4 := (((l1.trans l2).trans l3).trans l4)
  refine ⟨s2.heap.objs.size, [s2.heap.objs.size, ax], [s2.heap.objs.size], items.size, _, _, fun _ => true, fun i w => ∃ xi u, xs[i]? = some xi ∧ w = .str (g xi) u, rfl,
    (fun A' hA => Walks.list hA _ _ (Nat.ne_of_lt hlt) items), ⟨⟨_, hI4, rfl, rfl⟩, pl4.isList⟩, ?_, b4.lim, ?_, ?_, ?_⟩
  · intro c hc
    rcases List.mem_cons.mp hc with rfl | hc
    · exact Heap.lt_size hI4
    · rw [List.mem_singleton.mp hc]
      obtain ⟨_, e⟩ := pl4
      exact Heap.lt_size e
  · intro hm
    rw [List.mem_singleton] at hm
    refine Classical.byContradiction fun nay => ?_
    obtain ⟨_, hns, _⟩ := (F.base.ext y2.ext).lim
    obtain ⟨o', es, ep, ho, _⟩ := hns
    refine nay ?_
    clear nay
    rw [hm, Iold] at ho; cases ho
  · intro href hhref
    have up : ∀ s5 : Shared, (∀ b ∈ List.range s4.heap.objs.size, b ∉ [s2.heap.objs.size] → ∀ o, href.get? b = some o → s5.heap.get? b = some o) → Ext κ.T h s5.heap := fun s5 k =>
      (cutH_of (K := fun b => b ≠ s2.heap.objs.size) y4.ext fun a e q => by
        rw [q] at e
        exact e (Ext.back y2.ext Iold)).trans fun b o _ e => .inl (by
        by_cases hb : b = s2.heap.objs.size
        · rw [cutH_no (fun q => q hb)] at e; cases e
        · rw [cutH_yes hb] at e
          exact k b (List.mem_range.mpr (Heap.lt_size e)) (by simpa using hb) o (hhref b o e))
    refine ⟨fun A' E' i v s5 m5 _ _ _ _ _ _ _ => wpAny_pure ⟨rfl, s5.heap, s5.toks, rfl, fun _ _ e => e⟩, fun A' E' i v s5 m5 hA hd hu hP _ hns hm5 k => ?_⟩
    refine Classical.byContradiction fun nay => ?_
    obtain ⟨xi, u, hxi, rfl⟩ := itm i v hP
    refine nay ?_
    clear nay
    have hx5 := up s5 k
    have b5 := (F.base.ext hx5).strict
    have F5 : Fd κ.strict s5.heap (genEnv scope [] s4.heap.objs.size code builtinsNs env) [(x, .str xi)] := by
      refine ⟨fun z => if z = x then some (.str xi u) else none, ⟨b5, hkind, hge, rfl, ⟨m5, hns, fun z w hz hw => ?_⟩, fun z a e => by cases e⟩, fun z d e => ?_⟩
      · by_cases q : z = x
        · rw [if_pos q] at hw; cases hw; rw [q]; exact hm5
        · rw [if_neg q] at hw; cases hw
      · rw [List.lookup_cons] at e
        split at e
        · rename_i q; cases e
          exact ⟨.str xi u, if_pos (by simpa using q), .str _ _⟩
        · cases e
    have rm5 : Rm m A' := ⟨hA, by have := rm.dp; omega, by have := rm.un; omega⟩
    refine wpAny_mono (helt s4.heap.objs.size code i xi s5 A' rm5 hx5 hxi F5) (fun w s6 q6 => ?_) fun _ _ z => z.elim
    refine Classical.byContradiction fun nay => ?_
    obtain ⟨⟨u', rfl⟩, l6⟩ := q6
    refine nay ?_
    clear nay
    exact ⟨⟨xi, u', hxi, rfl⟩, l6.keeps⟩
  · intro a h5 tk gs hgs ha hs5 hk5 W hat
    refine spliced_nil ?_
    rw [passing_all] at W
    rw [List.length_range] at W
    have keep5 : Lt κ.T NoX s4 { s4 with gens := s4.gens.push gs, toks := tk, heap := h5 } := ⟨.of_keep fun b o _ e => hk5 b o e, fun z => z.push hgs, rfl, fun z => κ.T.st _ _ z (.of_keep hk5), fun z => absurd (show κ.T.loose by rw [hT]; exact hlo) z⟩
    refine SC.joinGen (x := sep) (t := tS) W.of_in1.of_in1 (fun i s' st => st.1.typeIs) hat ?_ (List.mem_cons_self ..) ?_ (fun s6 l hm hit => ?_) (by rw [hlen]; exact hz)
    · intro c hc
      show c < h5.objs.size
      rw [hs5]
      rcases List.mem_cons.mp hc with rfl | hc
      · exact Nat.lt_succ_self _
      · rcases List.mem_cons.mp hc with rfl | hc
        · exact Nat.lt_succ_of_lt ha
        · exact Nat.lt_succ_of_lt (Nat.lt_trans (List.mem_range.mp hc) ha)
    · rintro j w ⟨i, _, xi, u, _, rfl⟩
      exact ⟨_, _, rfl⟩
    · have hl : l.map (·.1) = xs.map g := by
        have hsz := hit.1
        rw [List.size_toArray] at hsz
        have hll : l.length = xs.length := by rw [← hlen, ← hsz]; simp [strValues]
        refine List.ext_getElem (by simp [hll]) fun j h1 h2 => ?_
        have hj : j < l.length := by simpa using h1
        have hjv : (strValues l).toArray[j]? = some (.str l[j].1 l[j].2) := by simp [strValues, hj]
        refine Classical.byContradiction fun nay => ?_
        obtain ⟨i, hi, xi, u, hxi, e⟩ := hit.2 j _ hjv
        refine nay ?_
        clear nay
        have hir : i = j := by
          rw [List.getElem?_range (by rw [hlen, ← hll]; exact hj)] at hi
          exact (Option.some.inj hi).symm
        subst hir
        have e2 : l[i].1 = g xi := by injection e
        have hix : i < xs.length := by omega
        rw [List.getElem?_eq_getElem hix] at hxi
        have e3 := Option.some.inj hxi
        simp only [List.getElem_map, e2, e3]
      rw [hl]
      refine ⟨ok, fun t' k => ⟨.str _ _, ?_⟩⟩
      have new1 : s.heap.get? s4.heap.objs.size = none := Ext.back lg.ext (get_none_of_size (Nat.le_refl _))
      have new2 : s.heap.get? s2.heap.objs.size = none := Ext.back (l1.trans l2).ext Iold
      have lg5 := lg.trans keep5
      have hk6 : ∀ b o, b ∉ [s4.heap.objs.size, s2.heap.objs.size] → h5.get? b = some o → s6.heap.get? b = some o := hm.heap
      refine ⟨ExtB.fresh (X := fun b => b ∈ [s4.heap.objs.size, s2.heap.objs.size]) lg5.ext (fun b o hb e => .inl (hk6 b o hb e)) ?_, fun z => AllBare.movedS (lg5.gens z) hm (s' := s6), hm.os.trans lg5.os, fun z => κ.T.st _ _ (lg.ok z) ?_, fun z => absurd (show κ.T.loose by rw [hT]; exact hlo) z⟩
      · intro b hb
        rcases List.mem_cons.mp hb with rfl | hb
        · exact new1
        · rw [List.mem_singleton.mp hb]; exact new2
      · intro b o vs e hd hc
        have hb : b ∉ [s4.heap.objs.size, s2.heap.objs.size] := fun hb => by
          rcases List.mem_cons.mp hb with rfl | hb
          · exact absurd (Heap.lt_size e) (Nat.lt_irrefl _)
          · rw [List.mem_singleton.mp hb, hI4] at e
            cases e
            rcases hc with hc | hc
            · cases hc
            · exact absurd (show Value.type "list_iterator" = Value.type "code" from hc) (by decide)
        exact hk6 b o hb (hk5 b o e)
end Mine
end
section
open PySem PySem.W PySem.W.X PyProof.Rows PySem.Calls
set_option Elab.async false
set_option maxRecDepth 100000
set_option maxHeartbeats 1000000
namespace Mine
variable {κ : Cx} {n : Nat} {env : Env} {h : Heap} {A : Around} {E : Value → Shared → Prop} {s s₀ : Shared} {V : Addr → Prop} {δ : Del}
/-! ## a def without cells, called at any count of marks -/
theorem call0 {f : Addr} {fd : FuncData} {body : List Stmt} {x : Str} {v : Value} {d : Da} {P : Pr} (b : Base κ s.heap) (fa : FnAt s.heap f fd) (ok : κ.T.ok s.heap) (hb : fd.body = .stmts body) (hclo : fd.closure = []) (hg : fd.globals = mainGlobals) (hbl : fd.builtins = builtinsNs)
    (hco : fd.scope.isCoroutine = false) (hge : fd.scope.isGenerator = false) (hk : fd.scope.kind = .function) (hnc : ∀ y ∈ fd.scope.names, y.2 ≠ .cell) (hcf : ∀ L, cellsFrom L fd.scope.names [] = [])
    (hbind : bindArgs fd ⟨[v], []⟩ = pure [(x, v)]) (hloc : fd.scope.names.lookup x = some .local) (dv : Dn Tr s.heap v d) (rm : Rm (n + 1) A)
    (hbody : ∀ V s₀, At κ s.heap V s₀ → Ex κ n s.heap V s₀ (callEnvC fd s₀.heap.objs.size f) [(x, d)] body (rt κ V s₀ P)) :
    wpAny κ.M A (call (.ref f) [v]) (fun u s' => P Tr u s'.heap ∧ Lt κ.T NoX s s') (fun _ _ => False) s := by
  refine Classical.byContradiction fun nay => ?_
  obtain ⟨o, ho, hd⟩ := fa.at_
  refine nay ?_
  clear nay
  refine wpAny_call (codeAny_call_function rm.depth ho hd hco hge hb fa.code.toRec ?_)
  rw [hbind]
  refine wpAny_pure ?_
  rw [hclo]
  have y1 : At κ s.heap Tr { s with toks := 1 } := ⟨.refl _, Nat.one_pos, ok, fun _ _ => trivial⟩
  refine wpAny_newFunctionEnv hnc (by
    intro z hz
    rw [List.mem_singleton.mp hz]; exact hloc) (fun h₁ hns hsb => ?_) hk
  have hkeep : ∀ b o, s.heap.get? b = some o → h₁.get? b = some o := fun b o e => hsb.extBut b o (Nat.ne_of_lt (Heap.lt_size e)) (Heap.get?_push_of_some _ e)
  have l : Lt κ.T NoX { s with toks := 1 } ⟨h₁, s.gens, s.drawn, s.toks + 1, s.os⟩ := .of_keep hkeep
  refine ⟨(b.ext (Ext.of_keep (T := κ.T) hkeep)).lim, codeAny_func ?_⟩
  have F : Fr κ s.heap Tr { s with toks := 1 } (callEnvC fd s.heap.objs.size f) [(x, d)] ⟨h₁, s.gens, s.drawn, s.toks + 1, s.os⟩ := by
    refine ⟨fun z => [(x, v)].lookup z, ⟨b, y1, l, Nat.succ_pos _, ⟨b.ext (cutH_of (Ext.of_keep hkeep) fun _ _ => trivial), hk, hg, hbl, ⟨_, hns.at' fun o e => (cutH_yes (h := h₁) trivial).trans e, fun z w _ hw => hw⟩, fun z a e => ?_⟩, get_none_of_size (Nat.le_refl _), fun z a e => ?_, fun z z' a e => ?_⟩, fun z d' e => ?_⟩
    · have e' : (cellsFrom (s.heap.objs.size + 1) fd.scope.names []).lookup z = some a := e
      rw [hcf] at e'; cases e'
    · have e' : (cellsFrom (s.heap.objs.size + 1) fd.scope.names []).lookup z = some a := e
      rw [hcf] at e'; cases e'
    · have e' : (cellsFrom (s.heap.objs.size + 1) fd.scope.names []).lookup z = some a := e
      rw [hcf] at e'; cases e'
    · rw [List.lookup_cons] at e
      split at e
      · rename_i q; cases e
        exact ⟨v, by show List.lookup z [(x, v)] = _; rw [List.lookup_cons, q], dv.kv fun b o _ eb _ => hkeep b o eb⟩
      · cases e
  have he : newEnv fd.scope s.heap.objs.size fd.globals [] (fd.qualname ++ ".<locals>.") (some f) fd.code none fd.builtins = callEnvC fd s.heap.objs.size f := by
    show _ = ({ scope := fd.scope, locals := s.heap.objs.size, globals := fd.globals, cells := cellsFrom (s.heap.objs.size + 1) fd.scope.names [], qual := fd.qualname ++ ".<locals>.", func := some f, code := fd.code, frame := some s.heap.objs.size, builtins := fd.builtins } : Env)
    rw [hcf]; rfl
  rw [he]
  refine wpAny_mono (hbody Tr { s with toks := 1 } y1 _ _ rm.deeper F) (fun fl s' q => ?_) fun _ _ z => z.elim
  refine Classical.byContradiction fun nay => ?_
  obtain ⟨⟨⟨u, rfl, p⟩, l2⟩, _⟩ := q
  refine nay ?_
  clear nay
  exact ⟨p, ⟨l2.ext, l2.gens, l2.os, l2.ok, l2.same⟩⟩
end Mine
end
section
open PySem PySem.W PySem.W.X PyProof.Rows PySem.Calls
set_option Elab.async false
set_option maxRecDepth 100000
set_option maxHeartbeats 1000000
namespace Mine
variable {κ : Cx} {h : Heap} {n : Nat} {t : Tx} {tj : Tab} {lo : Prop}
/-- what quote and join ask of the top -/
structure ShTop (κ : Cx) (tj : Tab) (h : Heap) (uns : Nat → Bool) : Prop where
  bm : Bm κ h
  S : ∃ S code, κ.mg "_find_unsafe" = some (.ref S) ∧ SrchAt h S code ∧ SetCode code uns
  q : Df κ h 3 "quote"
  j : ∃ f pm doc, κ.mg "join" = some (.ref f) ∧ FnAt h f (fAt 2 pm (.ref tj.c) doc)
theorem ShTop.ext {uns : Nat → Bool} {h' : Heap} (x : ShTop κ tj h uns) (k : Ext κ.T h h') : ShTop κ tj h' uns :=
  ⟨x.bm.ext k, by obtain ⟨S, c, a, b, d⟩ := x.S; exact ⟨S, c, a, b.ext k, d⟩, x.q.ext k, by obtain ⟨f, pm, doc, a, b⟩ := x.j; exact ⟨f, pm, doc, a, b.ext k⟩⟩
noncomputable def qj1 : List (Nat × Str) := [(66, "join.<locals>.<genexpr>")]
theorem litBlank : ((" " : Str)) = tx [32] := by decide +kernel
theorem join_ok {uns : Nat → Bool} {f : Addr} {pm doc : Value} {ls : List (List Nat)} (b : Base κ h) (fa : FnAt h f (fAt 2 pm (.ref tj.c) doc)) (sh : ShTop κ tj h uns) (hT : κ.T = t.tb lo) (hlo : lo) (hgd : t.Good) (htj : tj ∈ t.tabs) (hqj : tj.q = qkOf qj1) (hz : ∀ l ∈ ls, 7 * l.length + 7 ≤ sizeLine) (hn : ls.length ≤ sizeLine)
    (ok : JoinOk (tx [32]) (ls.map fun l => tx (quo uns l)) = true) :
    Fun κ (n + 5) h (.ref f) (Iss [.list (ls.map fun l => .str (tx l))]) (Is (.str (Txt.join (tx [32]) (ls.map fun l => tx (quo uns l))))) := by
  refine fun_data (xs := ["split_command"]) (body := (dAt 2).body) b fa rfl rfl rfl rfl rfl rfl rfl ?_ nd1 ?_ fun V s₀ y => ?_
  · intro vs hv
    obtain ⟨v, rfl⟩ := List.length_eq_one_iff.mp hv
    rfl
  · intro x hx L
    simp only [List.mem_cons, List.not_mem_nil, or_false] at hx
    subst hx
    rfl
  refine ex_ret' (fun h' k F => ?_) fun v s' p l => ret_ok p l
  have e1 : (ls.map fun l => Da.str (tx l)) = (ls.map tx).map Da.str := by rw [List.map_map]; rfl
  have e2 : (ls.map fun l => tx (quo uns l)) = (ls.map tx).map fun x => tx (quo uns x.cps.toList) := by
    rw [List.map_map]
    refine List.map_congr_left fun l _ => ?_
    show _ = tx (quo uns (tx l).cps.toList)
    simp [tx]
  rw [e2] at ok ⊢
  rw [e1] at F
  refine ev_joinG (m := 2) (t := t) (lo := lo) (g := fun x => tx (quo uns x.cps.toList)) F (sh.bm.ext k) hT hlo hgd htj rfl (by rw [hqj]; rfl) (by rw [hqj]; exact qkOf_at) (by rw [← litBlank]; exact ev_str) (ev_loc F rfl) (by omega) (by simpa using hn) ok rfl rfl (fun C code i xi s5 A' rm5 hx5 hxi F5 => ?_)
  refine Classical.byContradiction fun nay => ?_
  obtain ⟨S, cd, gs, hs, H⟩ := sh.S
  obtain ⟨fq, pq, cq, dq, gq, fq0⟩ := sh.q.ex
  refine nay ?_
  clear nay
  have hx0 := k.trans hx5
  have fq5 := fq0.ext hx0
  refine Classical.byContradiction fun nay => ?_
  obtain ⟨o, ho, hd⟩ := id fq5.at_
  refine nay ?_
  clear nay
  obtain ⟨l, hl, rfl⟩ : ∃ l, ls[i]? = some l ∧ xi = tx l := by
    simp only [List.getElem?_map, Option.map_eq_some_iff] at hxi
    refine Classical.byContradiction fun nay => ?_
    obtain ⟨l, a, b⟩ := hxi
    refine nay ?_
    clear nay
    exact ⟨l, a, b.symm⟩
  have hlm := List.mem_of_getElem? hl
  refine Classical.byContradiction fun nay => ?_
  obtain ⟨ρ, Fm5, H5⟩ := id F5.ex
  obtain ⟨v, p5, dv5⟩ := H5 "arg" _ rfl
  refine nay ?_
  clear nay
  refine wpAny_Call_NameR (wpAny_Name (F5.glob gq rfl A' _ _ s5 (ExtB.refl _) ?_) (by decide))
  refine callWith_function (o := o) (fd := fAt 3 pq cq dq) ?_
  refine evalArgs_plain (spliced_cons (wpAny_Name (vr_of Fm5 p5 (lies_of rfl) A' _ _ s5 (ExtB.refl _) (spliced_nil ?_)) (by decide)))
  refine ⟨⟨ho, hd⟩, ?_⟩
  refine wpAny_mono (call0 (κ := κ.strict) (n := 1) (s := s5) (x := "s") (d := .str (tx l)) (P := Is (.str (tx (quo uns l)))) (body := (dAt 3).body) F5.base fq5 trivial rfl rfl rfl rfl rfl rfl rfl (show ∀ y ∈ (dAt 3).scope.names, y.2 ≠ .cell by decide +kernel) (fun _ => rfl) rfl rfl dv5 rm5 fun V s₀ y => quote_body (κ := κ.strict) gs (hs.ext hx0) H (hz l hlm) V s₀) (fun w s6 q => ?_) fun _ _ z => z
  obtain ⟨p6, l6⟩ := q
  cases p6
  have e3 : (tx l).cps.toList = l := by simp [tx]
  rw [e3]
  exact ⟨⟨_, rfl⟩, l6⟩
end Mine
end
section
open PySem PySem.W PySem.W.X PyProof.Rows PySem.Calls
set_option Elab.async false
set_option maxRecDepth 100000
set_option maxHeartbeats 1000000
namespace Mine
variable {κ : Cx} {n : Nat} {env : Env} {h : Heap} {A : Around} {s : Shared} {V : Addr → Prop} {δ : Del} {ρ : Str → Option Value}
/-! ## comprehensions over pairs of plain data -/
structure Wk2 (κ : Cx) (A : Around) (s₀ s : Shared) (I : Addr) (N : Nat) (fp wr : List Addr) (pr : Nat → Da × Da) (Pt : Nat → Array Value → Prop) (St : Nat → Heap → Prop) (Mid : Nat → Addr → Heap → Prop) : Prop where
  hd : A.handled = none
  ww : ∀ A' : Around, A'.handled = none → WalksU κ.prog κ.w A' I fp wr N Pt St Mid
  solid : ∀ i h', St i h' → ∀ b ∈ fp, ∀ o, h'.get? b = some o → o.cls ≠ .none ∧ o.cls ≠ .type "code"
  solidM : ∀ i T h', Mid i T h' → ∀ b ∈ wr, ∀ o, h'.get? b = some o → o.cls ≠ .none ∧ o.cls ≠ .type "code"
  ex : ∀ i h', St i h' → ∀ b ∈ wr, h'.get? b ≠ none
  st : St 0 s.heap
  below : ∀ b ∈ fp, b < s.heap.objs.size
  new : ∀ b ∈ wr, s₀.heap.get? b = none
  item : ∀ (i : Nat) vals, i < N → Pt i vals → ∃ va vb, vals = #[va, vb] ∧ (∀ V h, Dn V h va (pr i).1) ∧ ∀ V h, Dn V h vb (pr i).2
theorem compLoop_go {prog : Program} {w : World} {A : Around} {R : Result → Shared → Prop} {s : Shared} {elt target iter : Expr} {scope : Scope} {pos : Pos} {it acc : Value} {env : Env} (I : Nat → Shared → Prop)
    (turn : ∀ n s, I n s → ∀ E : Value → Shared → Prop, wpAny (model prog w) A (pyNext it) (fun r s₁ => match r with
      | none => R (.ok .next) s₁
      | some v => wpAny (model prog w) A (letOwnedTupleGo target it v) (fun _ s₂ => wpAny (model prog w) A (assign target env v) (fun _ s₃ => wpAny (model prog w) A (eval elt env) (fun x s₄ =>
          wpAny (model prog w) A (call (.builtin "list.append") [acc, x]) (fun _ s₅ => ∃ m, m < n ∧ I m s₅) E s₄) E s₃) E s₂) E s₁) E s)
    (n : Nat) (h : I n s) : codeAny (model prog w) A (.compLoop (.ListComp elt [⟨target, iter, [], 0⟩] scope pos) 0 it acc env) R s := by
  refine codeAny_loop rfl I (fun n s hI => ?_) n h
  show wpAny _ A ((compTurn (.ListComp elt [⟨target, iter, [], 0⟩] scope pos) 0 it acc env).onRaise (fun x => do noteFrame x env; theTreesLotGoes x)) _ _ s
  refine wpAny_noted ?_
  rw [compTurn_list]
  refine wpAny_bind (wpAny_standAt (wpAny_bind (wpAny_mono (turn n s hI _) (fun r s₁ h₁ => ?_) fun _ _ h' => h')))
  cases r with
  | none => exact wpAny_pure h₁
  | some v =>
    refine wpAny_bind (wpAny_mono h₁ (fun _ s₂ h₂ => ?_) fun _ _ h' => h')
    refine wpAny_bind (wpAny_mono h₂ (fun _ s₃ h₃ => wpAny_bind (wpAny_tests_nil ?_)) fun _ _ h' => h')
    exact wpAny_bind (wpAny_bind (wpAny_mono h₃ (fun x s₄ h₄ => wpAny_bind (wpAny_mono h₄ (fun _ s₅ h₅ => wpAny_pure (wpAny_pure ⟨rfl, h₅⟩)) fun _ _ h' => h')) fun _ _ h' => h'))
theorem comp_loop2 {elt iter : Expr} {xa xb : Str} {pa pb pt : Pos} {kt : Nat} {scope : Scope} {pos : Pos} {cenv : Env} {N : Nat} {pr : Nat → Da × Da} {f : Nat → Da} {s₀ s₂ s : Shared} {I D : Addr} {fp wr : List Addr} {Pt : Nat → Array Value → Prop} {St : Nat → Heap → Prop} {Mid : Nat → Addr → Heap → Prop} {R : Result → Shared → Prop} {m0 : Str → Option Value}
    (rm : Rm n A) (W : Wk2 κ A s₀ s₂ I N fp wr pr Pt St Mid) (hz : N ≤ sizeLine) (y₀ : At κ h V s₀) (l02 : Lt κ.T NoX s₀ s₂) (l2 : Lt κ.T NoX s₂ s) (tk : 0 < s.toks)
    (hC : s₂.heap.get? cenv.locals = none) (hD : s₂.heap.get? D = none) (hDC : D ≠ cenv.locals) (hDf : D ∉ fp) (hCf : cenv.locals ∉ fp) (hst : St 0 s.heap) (hacc : s.heap.PlainList D #[]) (hn0 : s.heap.Ns cenv.locals m0)
    (hxa : cenv.kindOf xa = some .local) (hxb : cenv.kindOf xb = some .local) (hab : xa ≠ xb) (hp : (cenv.scope.kind == .class || (cenv.scope.kind == .module && cenv.locals != cenv.globals)) = false)
    (helt : ∀ (i : Nat) va vb m h', Ext κ.T h h' → i < N → (∀ V h, Dn V h va (pr i).1) → (∀ V h, Dn V h vb (pr i).2) → h'.Ns cenv.locals m → m xa = some va → m xb = some vb → Ev κ n cenv h' elt (Is (f i)))
    (hR : ∀ s' ys, Lt κ.T (fun b => b = cenv.locals ∨ b = D ∨ b ∈ wr) s s' → (∃ m, s'.heap.Ns cenv.locals m) → s'.heap.PlainList D ys → Dns V s'.heap ys.toList ((List.range N).map f) → 0 < s'.toks → R (.ok .next) s') :
    codeAny κ.M A (.compLoop (.ListComp elt [⟨.Tuple [.Name xa pa, .Name xb pb] kt pt, iter, [], 0⟩] scope pos) 0 (.ref I) (.ref D) cenv) R s := by
  have w0 := W.ww A W.hd
  have vD : V D := y₀.vis D (.inr (Ext.back l02.ext hD))
  have vC : V cenv.locals := y₀.vis _ (.inr (Ext.back l02.ext hC))
  have ok₀ : κ.T.ok s.heap := (l02.trans l2).ok y₀.ok
  have hDw : D ∉ wr := fun q => hDf (w0.sub _ q)
  have hCw : cenv.locals ∉ wr := fun q => hCf (w0.sub _ q)
  have xfresh : ∀ b, (b = cenv.locals ∨ b = D ∨ b ∈ wr) → s₀.heap.get? b = none := by
    rintro b (rfl | rfl | hb)
    · exact Ext.back l02.ext hC
    · exact Ext.back l02.ext hD
    · exact W.new b hb
  have base : ∀ h', ExtB κ.T (fun b => b = cenv.locals ∨ b = D ∨ b ∈ wr) s.heap h' → Ext κ.T h h' := fun h' e => y₀.ext.trans (ExtB.fresh (l02.trans l2).ext e xfresh)
  have inh : ∀ b, h.get? b ≠ none → ¬ (b = cenv.locals ∨ b = D ∨ b ∈ wr) := fun b e x => e (Ext.back y₀.ext (xfresh b x))
  refine compLoop_go (fun k s' => ∃ j ys, j ≤ N ∧ k = N + 1 - j ∧ St j s'.heap ∧ s'.heap.PlainList D ys ∧ (∃ m, s'.heap.Ns cenv.locals m) ∧
    Dns (fun a => V a ∧ a ≠ D ∧ a ∉ wr) s'.heap ys.toList ((List.range j).map f) ∧ Lt κ.T (fun b => b = cenv.locals ∨ b = D ∨ b ∈ wr) s s' ∧ 0 < s'.toks) ?_ (N + 1)
    ⟨0, #[], Nat.zero_le _, rfl, hst, hacc, ⟨_, hn0⟩, by simpa using Dns.nil, .refl _, tk⟩
  rintro k s' ⟨j, ys, hj, rfl, hst', hacc', ⟨m', hn'⟩, hds, l, tk'⟩ E
  by_cases hlt : j < N
  · refine wpAny_with_toks (n := 1) tk' (w0.item j _ _ _ hlt hst' fun T vals h₁ tk₁ hPv hT₁ hmid hk₁ htk₁ => ?_)
    refine Classical.byContradiction fun nay => ?_
    obtain ⟨va, vb, rfl, da, db⟩ := W.item j vals hlt hPv
    refine nay ?_
    clear nay
    refine w0.go _ _ _ j T _ _ _ hmid fun h₁' hst₁ hk₁' => ?_
    have hT₁' : h₁'.IsTuple T #[va, vb] := by obtain ⟨o, e, r⟩ := hT₁; exact ⟨o, hk₁' _ o (w0.apart j T _ hmid) e, r⟩
    refine wpAny_assign_Tuple W.hd hT₁' rfl rfl fun h₁'' hx₁ => ?_
    replace hx₁ : Heap.ExtBut h₁'.objs.size h₁' h₁'' := hx₁
    have old₁ : ∀ b o, h₁'.get? b = some o → h₁''.get? b = some o := fun b o e => hx₁ b o (Nat.ne_of_lt (Heap.lt_size e)) e
    show wpAny _ _ (do holding [vb] (assign (.Name xa pa) cenv va); do holding [] (assign (.Name xb pb) cenv vb); pure ()) _ _ _
    have hnA : h₁''.Ns cenv.locals m' := hn'.at' fun o e => old₁ _ o (hk₁' _ o hCw (hk₁ _ o hCw e))
    refine wpAny_bind (wpAny_holding (wpAny_assign_Name (wpAny_storeName_local hxa hnA (fun h₂a hn₂a hs₂a => ?_) hp)))
    replace hs₂a : Heap.SameBut cenv.locals h₁'' h₂a := hs₂a
    refine wpAny_bind (wpAny_holding (wpAny_assign_Name (wpAny_storeName_local hxb hn₂a (fun h₂ hn₂ hs₂ => wpAny_pure ?_) hp)))
    replace hs₂ : Heap.SameBut cenv.locals h₂a h₂ := hs₂
    have up₂ : ∀ b o, b ≠ cenv.locals → b ∉ wr → s'.heap.get? b = some o → h₂.get? b = some o := fun b o hbC hbw e => hs₂.extBut b o hbC (hs₂a.extBut b o hbC (old₁ b o (hk₁' b o hbw (hk₁ b o hbw e))))
    have hst₂ : St (j + 1) h₂ := w0.frame _ _ _ hst₁ fun b hb o e => hs₂.extBut b o (fun h => hCf (h ▸ hb)) (hs₂a.extBut b o (fun h => hCf (h ▸ hb)) (old₁ b o e))
    have e2 : ExtB κ.T (fun b => b = cenv.locals ∨ b = D ∨ b ∈ wr) s'.heap h₂ := fun b o hb e => .inl (up₂ b o (fun z => hb (.inl z)) (fun z => hb (.inr (.inr z))) e)
    have cm₂ : Calm s'.heap h₂ := by
      refine Calm.trans (Calm.trans (Calm.but (fun b => b ∈ wr) (fun b o hb e => hk₁ b o hb e) fun b o vs hb e _ => W.solid _ _ hst' b (w0.sub _ hb) o e) (Calm.but (fun b => b ∈ wr) (fun b o hb e => hk₁' b o hb e) fun b o vs hb e _ => W.solidM _ _ _ hmid b hb o e)) ?_
      exact Calm.trans (Calm.of_keep old₁) (Calm.trans (calm_ns hnA hs₂a) (calm_ns hn₂a hs₂))
    have l2' : Lt κ.T (fun b => b = cenv.locals ∨ b = D ∨ b ∈ wr) s ⟨h₂, s'.gens, s'.drawn, tk₁ + 1 + 1, s'.os⟩ := l.trans (.of_ext e2 cm₂)
    have hacc₂ : h₂.PlainList D ys := hacc'.at fun o e => up₂ D o hDC hDw e
    have hY : ∀ b, h.get? b ≠ none → (V b ∧ b ≠ D ∧ b ∉ wr) := fun b e => ⟨y₀.vis b (.inl e), fun q => inh b e (.inr (.inl q)), fun q => inh b e (.inr (.inr q))⟩
    have nY : ∀ h', ExtB κ.T (fun b => b = cenv.locals ∨ b = D ∨ b ∈ wr) s.heap h' → (∃ o, h'.get? D = some o) → (∀ b ∈ wr, h'.get? b ≠ none) → ∀ b, h'.get? b = none → (V b ∧ b ≠ D ∧ b ∉ wr) := fun h' e ⟨o, hDo⟩ ex b eb =>
      ⟨y₀.vis b (.inr (Ext.back (ExtB.fresh (l02.trans l2).ext e xfresh) eb)), fun q => (by rw [q, hDo] at eb; cases eb), fun q => ex b q eb⟩
    have y₂ : At κ (cutH (fun a => V a ∧ a ≠ D ∧ a ∉ wr) h₂) (fun a => V a ∧ a ≠ D ∧ a ∉ wr) (⟨h₂, s'.gens, s'.drawn, tk₁ + 1 + 1, s'.os⟩ : Shared) := cutH_at (s := ⟨h₂, s'.gens, s'.drawn, tk₁ + 1 + 1, s'.os⟩) (Nat.succ_pos _) (l2'.ok ok₀) (nY h₂ l2'.ext (by obtain ⟨_, e⟩ := hacc₂; exact ⟨_, e⟩) (W.ex _ _ hst₂))
    refine (helt j va vb _ _ (cutH_of (base _ l2'.ext) hY) hlt da db (hn₂.at' fun o e => (cutH_yes (h := h₂) ⟨vC, hDC.symm, hCw⟩).trans e) (by simp [hab]) (by simp)).go rm y₂ fun u s₄ pu l₄ y₄ => ?_
    have kfill : Kv (fun a => V a ∧ a ≠ D ∧ a ∉ wr) s'.heap s₄.heap := fun b o vb' eb hd' => by
      have nf : ∀ vs', o.data ≠ .fields vs' := fun vs' q' => hd'.ne q' rfl
      have nC : b ≠ cenv.locals := fun z => by
        refine Classical.byContradiction fun nay => ?_
        obtain ⟨o', es, ep, e', hd2, _⟩ := hn'
        refine nay ?_
        clear nay
        rw [z, e'] at eb; cases eb; exact hd'.ne hd2 rfl
      have nw : b ∉ wr := vb'.2.2
      exact Ext.get_data l₄.ext (up₂ b o nC nw eb) nf
    have hds₄ := hds.kv kfill
    have hys : ys.size ≤ sizeLine := by
      have e1 := hds.length
      rw [Array.length_toList, List.length_map, List.length_range] at e1
      omega
    have hacc₄ := (Ext.kv (V := Tr) l₄.ext).plain trivial hacc₂
    refine wpAny_list_append_plain (hsz := hys) hacc₄ fun h₅ hl₅ hs₅ => ?_
    have e5 : ExtB κ.T (fun b => b = cenv.locals ∨ b = D ∨ b ∈ wr) s₄.heap h₅ := ExtB.sameBut hs₅ (.inr (.inl rfl))
    have kD : Kv (fun a => V a ∧ a ≠ D ∧ a ∉ wr) s₄.heap h₅ := fun b o vb eb _ => hs₅.extBut b o vb.2.1 eb
    have hst₄ : St (j + 1) s₄.heap := w0.frame _ _ _ hst₂ fun b hb o e => Ext.get l₄.ext e (W.solid _ _ hst₂ b hb o e).1
    have hn₄ := ns_ext l₄.ext hn₂
    refine ⟨N + 1 - (j + 1), turn_lt hlt, j + 1, ys.push u, hlt, rfl, w0.frame _ _ _ hst₄ fun b hb o e => hs₅.extBut b o (fun q => hDf (q ▸ hb)) e, hl₅, ⟨_, hn₄.sameBut hs₅ hDC.symm⟩, ?_, (l2'.trans l₄.toB).trans (.of_ext e5 (Calm.but (fun b => b = D) (fun b o hb e => hs₅.extBut b o hb e) fun b o vs hb e hd => by
        obtain ⟨q, eD⟩ := hacc₄
        rw [hb, eD] at e; cases e; cases hd)), y₄.tk⟩
    rw [List.range_succ, List.map_append, Array.toList_push]
    exact ((hds₄.snoc pu).kv kD)
  · have hjn : j = N := by omega
    subst hjn
    refine wpAny_with_toks (n := 1) tk' (w0.done _ _ _ hst' fun h₁ tk₁ hk₁ htk₁ => ?_)
    have e1 : ExtB κ.T (fun b => b = cenv.locals ∨ b = D ∨ b ∈ wr) s'.heap h₁ := fun b o hb e => .inl (hk₁ b o (fun q => hb (.inr (.inr q))) e)
    have cm₁ : Calm s'.heap h₁ := Calm.but (fun b => b ∈ wr) (fun b o hb e => hk₁ b o hb e) fun b o vs hb e _ => W.solid _ _ hst' b (w0.sub _ hb) o e
    refine hR _ ys (l.trans (.of_ext e1 cm₁)) ⟨_, hn'.at' fun o e => hk₁ _ o hCw e⟩ (hacc'.at fun o e => hk₁ _ o hDw e) ?_ htk₁
    refine (hds.kv fun b o vb eb hd' => ?_).at fun a va _ => va.1
    exact hk₁ b o vb.2.2 eb
end Mine
end
section
open PySem PySem.W PySem.W.X PyProof.Rows PySem.Calls
set_option Elab.async false
set_option maxRecDepth 100000
set_option maxHeartbeats 1000000
namespace Mine
variable {κ : Cx} {n : Nat} {env : Env} {h : Heap} {A : Around} {s : Shared} {V : Addr → Prop} {δ : Del} {ρ : Str → Option Value}
noncomputable def Src2 (κ : Cx) (n : Nat) (env : Env) (h : Heap) (iter : Expr) (N : Nat) (pr : Nat → Da × Da) : Prop :=
  ∀ A s V, Rm n A → At κ h V s → wpAny κ.M A (eval iter env) (fun xv s₁ => wpAny κ.M A (pyIter xv) (fun it s₂ => Lt κ.T NoX s s₂ ∧ ∃ I fp wr Pt St Mid, it = .ref I ∧ Wk2 κ A s s₂ I N fp wr pr Pt St Mid) (fun _ _ => False) s₁) (fun _ _ => False) s
theorem Src2.go {iter : Expr} {N : Nat} {pr : Nat → Da × Da} (x : Src2 κ n env h iter N pr) (rm : Rm n A) (y : At κ h V s) {Q : Value → Shared → Prop} {E : Value → Shared → Prop}
    (k : ∀ I fp wr Pt St Mid s₂, Lt κ.T NoX s s₂ → At κ h V s₂ → Wk2 κ A s s₂ I N fp wr pr Pt St Mid → Q (.ref I) s₂) : wpAny κ.M A (eval iter env) (fun xv s₁ => wpAny κ.M A (pyIter xv) Q E s₁) E s :=
  wpAny_mono (wpAny_toks_of y.tk (x A s V rm y)) (fun xv s₁ q => wpAny_mono (wpAny_toks_of q.1 q.2) (fun it s₂ z => by
    refine Classical.byContradiction fun nay => ?_
    obtain ⟨t, l, I, fp, wr, Pt, St, Mid, rfl, W⟩ := z
    refine nay ?_
    clear nay
    exact k I fp wr Pt St Mid s₂ l (y.on l t) W) fun _ _ f => f.2.elim) fun _ _ f => f.2.elim
noncomputable def enumP (ns : List Int) (i : Nat) : Da × Da := (.int (i : Int), .int (ns.getD i 0))
theorem src_enum {e : Expr} {p pos : Pos} {ns : List Int} (F : Fd κ h env δ) (bl : Blt κ "enumerate" (.type "enumerate")) (a : Ev κ n env h e (Is (.list (nums ns)))) (hk : env.kindOf "enumerate" = some .globalImplicit := by rfl)
    (he : ∀ pos, backTo pos (starEach [e] env) = (false, eval e env) :: backTo pos (starEach [] env) := by intro _; rfl)
    (hp : ∀ pos, (backTo pos (starEach [e] env)).any (·.1) = false := by intro _; rfl) : Src2 κ n env h (.Call (.Name "enumerate" p) [e] [] pos) ns.length (enumP ns) := by
  intro A s V rm y
  refine wpAny_Call_NameR (wpAny_Name (F.blt bl hk A _ _ s y.ext ?_) (by decide))
  refine PySem.callWith_type (hp pos) ?_
  have z := fun Q k => (evl_one a Is.per he).go (A := A) (s := s) (V := V) (Q := Q) (E := fun _ _ => False) pos rm y k
  rw [he] at z ⊢
  refine evalArgs_plain (z _ fun vs s1 pv l1 y1 => ?_)
  refine Classical.byContradiction fun nay => ?_
  obtain ⟨v, rfl, pv⟩ := pv
  refine nay ?_
  clear nay
  cases pv with
  | @list ax items _ va pl r =>
  have hi := intsAre_of r
  have hax : ax < s1.heap.objs.size := by obtain ⟨_, e⟩ := pl; exact Heap.lt_size e
  have hlen : items.size = ns.length := by rw [← Array.length_toList, r.length, List.length_map]
  refine call_enumerate_list pl.isList fun h' hen hit hsz hk' => ?_
  have keep : ∀ b o, s1.heap.get? b = some o → h'.get? b = some o := hk'
  refine wpAny_pyIter_enum hen ?_
  have l2 : Lt κ.T NoX s { s1 with heap := h' } := l1.trans (.of_keep keep)
  have hl' : h'.IsList ax items := pl.isList.at fun o e => keep ax o e
  have nef : s1.heap.objs.size + 1 ∉ [s1.heap.objs.size, ax] := fun hm => by
    rcases List.mem_cons.mp hm with e | hm
    · exact Nat.succ_ne_self _ e
    · have e := List.mem_singleton.mp hm
      exact absurd hax (by rw [← e]; exact Nat.not_lt.mpr (Nat.le_succ _))
  have ww := fun (A' : Around) (hA : A'.handled = none) => by
    have D := Draws.list (prog := κ.prog) (w := κ.w) (A := A'.in1) hA s1.heap.objs.size ax (Nat.ne_of_lt hax) items
    rw [hlen] at D
    exact (WalksT.enumerateD D (s1.heap.objs.size + 1) (Nat.succ_ne_self _) nef (List.mem_cons_self ..)).toU
  refine ⟨l2, _, _, _, _, _, _, rfl, ⟨rm.hd, ww, ?_, ?_, ?_, ⟨⟨_, hen⟩, hit, hl'⟩, ?_, ?_, ?_⟩⟩
  · rintro i h2 ⟨⟨old, e1⟩, ⟨o, e2, c2, d2⟩, ⟨o3, e3, c3, q3, d3⟩⟩ b hb ob eb
    simp only [List.mem_cons, List.not_mem_nil, or_false] at hb
    rcases hb with rfl | rfl | rfl
    · rw [e1] at eb; cases eb; exact ⟨fun q => (by cases q), fun q => absurd (show Value.type "enumerate" = Value.type "code" from q) (by decide)⟩
    · rw [e2] at eb; cases eb; rw [c2]; exact ⟨fun q => (by cases q), by decide⟩
    · rw [e3] at eb; cases eb; rw [c3]; exact ⟨fun q => (by cases q), by decide⟩
  · rintro i T h2 ⟨⟨x, e1⟩, ⟨⟨o, e2, c2, d2⟩, _⟩, _, _⟩ b hb ob eb
    simp only [List.mem_cons, List.not_mem_nil, or_false] at hb
    rcases hb with rfl | rfl
    · rw [e1] at eb; cases eb; exact ⟨fun q => (by cases q), fun q => absurd (show Value.type "enumerate" = Value.type "code" from q) (by decide)⟩
    · rw [e2] at eb; cases eb; rw [c2]; exact ⟨fun q => (by cases q), by decide⟩
  · rintro i h2 ⟨⟨old, e1⟩, ⟨o, e2, c2, d2⟩, _⟩ b hb q
    simp only [List.mem_cons, List.not_mem_nil, or_false] at hb
    rcases hb with rfl | rfl
    · rw [e1] at q; cases q
    · rw [e2] at q; cases q
  · intro b hb
    show b < h'.objs.size
    simp only [List.mem_cons, List.not_mem_nil, or_false] at hb
    rw [hsz]
    rcases hb with e | e | e
    · rw [e]; exact Nat.lt_succ_self _
    · rw [e]; exact Nat.lt_succ_of_lt (Nat.lt_succ_self _)
    · rw [e]; exact Nat.lt_succ_of_lt (Nat.lt_succ_of_lt hax)
  · intro b hb
    simp only [List.mem_cons, List.not_mem_nil, or_false] at hb
    rcases hb with rfl | rfl
    · exact Ext.back l1.ext (get_none_of_size (Nat.le_succ _))
    · exact Ext.back l1.ext (get_none_of_size (Nat.le_refl _))
  · rintro i vals hi' ⟨t, x, hx, rfl⟩
    refine Classical.byContradiction fun nay => ?_
    obtain ⟨dd, e1, e2⟩ := (nums_of (V := Tr) (h := s1.heap) hi).get' (i := i) (v := x) (by simpa using hx)
    simp only [List.getElem?_map, Option.map_eq_some_iff] at e1
    obtain ⟨k, ek, rfl⟩ := e1
    cases e2
    refine nay ?_
    clear nay
    refine ⟨_, _, rfl, fun _ _ => .int _ _, fun _ _ => ?_⟩
    have : ns.getD i 0 = k := by simp [List.getD, ek]
    show Dn _ _ _ (.int (ns.getD i 0))
    rw [this]; exact .int _ _
noncomputable def onlyLocal2 (scope : Scope) (x y : Str) : Bool := scope.names.all fun z => (z.2 != .cell) && (z.2 != .local || (z.1 == x || (z.1 == y || z.1 == (".0" : Str))))
noncomputable def compRho2 (scope : Scope) (x : Str) (v : Value) (y : Str) (u : Value) (ρ : Str → Option Value) : Str → Option Value := fun z => if z = x then some v else if z = y then some u else if scope.names.lookup z = some .local then none else ρ z
theorem Fm.comp2 {ρ m' : Str → Option Value} {h' : Heap} {scope : Scope} {cl : List (Str × Addr)} {C : Addr} {x y : Str} {v u : Value} (F : Fm κ h env ρ) (k : Ext κ.T h h') (hkind : scope.kind = .function) (hcl : ∀ y a, cl.lookup y = some a → env.cells.lookup y = some a ∧ env.kindOf y ≠ some .local)
    (hx : scope.names.lookup x = some .local) (hy : scope.names.lookup y = some .local) (hn : h'.Ns C m') (hv : m' x = some v) (hu : m' y = some u) : Fm κ h' (compEnvC scope cl C env) (compRho2 scope x v y u ρ) := by
  refine ⟨F.base.ext k, hkind, F.glob, F.blt, ⟨m', hn, fun z w hk hw => ?_⟩, fun z a e => ?_⟩
  · unfold compRho2 at hw
    by_cases hz : z = x
    · rw [if_pos hz] at hw; cases hw; rw [hz]; exact hv
    · rw [if_neg hz] at hw
      by_cases hz2 : z = y
      · rw [if_pos hz2] at hw; cases hw; rw [hz2]; exact hu
      · rw [if_neg hz2, if_pos (lookup_relabel hk)] at hw; cases hw
  · refine Classical.byContradiction fun nay => ?_
    obtain ⟨e', hk⟩ := hcl z a e
    obtain ⟨w, p, q⟩ := F.cl z a e'
    refine nay ?_
    clear nay
    refine ⟨w, cell_ext k p, fun w' hk' hw => q w' hk ?_⟩
    unfold compRho2 at hw
    by_cases hz : z = x
    · exact absurd (lookup_relabel_local (hz ▸ hx)) hk'
    · rw [if_neg hz] at hw
      by_cases hz2 : z = y
      · exact absurd (lookup_relabel_local (hz2 ▸ hy)) hk'
      · rw [if_neg hz2] at hw
        by_cases hl : scope.names.lookup z = some .local
        · rw [if_pos hl] at hw; cases hw
        · rw [if_neg hl] at hw; exact hw
theorem core_map2 {elt iter : Expr} {x y : Str} {px py pt : Pos} {kt : Nat} {scope : Scope} {pos : Pos} {cl : List (Str × Addr)} {N : Nat} {pr : Nat → Da × Da} {f : Nat → Da}
    (hsrc : Src2 κ n env h iter N pr) (hz : N ≤ sizeLine) (hclos : closureFor scope env = pure cl) (hcl : clB env cl)
    (helt : ∀ C (i : Nat) h', Ext κ.T h h' → i < N → Fd κ h' (compEnvC scope cl C env) ((x, (pr i).1) :: (y, (pr i).2) :: δ) → Ev κ n (compEnvC scope cl C env) h' elt (Is (f i)))
    (ho : onlyLocal2 scope x y = true := by rfl) (h0 : δ.lookup (".0" : Str) = none := by rfl) (hkind : scope.kind = .function := by rfl) (hx : scope.names.lookup x = some .local := by rfl) (hy : scope.names.lookup y = some .local := by rfl) (hd0 : scope.names.lookup (".0" : Str) = some .local := by rfl) (hxy : x ≠ y := by decide)
    (hs : ∀ x, foldedSetIterable iter env x = pure x := by intro _; rfl) : Core κ n h env δ (.ListComp elt [⟨.Tuple [.Name x px, .Name y py] kt pt, iter, [], 0⟩] scope pos) scope iter (.list ((List.range N).map f)) := by
  intro A s V ρ use Q E pos' F H rm ya hend
  have hall : ∀ z ∈ scope.names, (z.2 ≠ .cell) ∧ (z.2 = .local → z.1 = x ∨ z.1 = y ∨ z.1 = (".0" : Str)) := fun z hz => by
    have := List.all_eq_true.mp ho z hz
    refine ⟨fun e => by rw [e] at this; simp at this, fun e => by rw [e] at this; simpa using this⟩
  have hnames : ∀ z ∈ scope.names, z.2 = .local → scope.names.lookup z.1 = some .local := fun z hz e => by
    rcases (hall z hz).2 e with e2 | e2 | e2
    · rw [e2]; exact hx
    · rw [e2]; exact hy
    · rw [e2]; exact hd0
  refine wpAny_comprehension_free (g := ⟨.Tuple [.Name x px, .Name y py] kt pt, iter, [], 0⟩) (gs := []) rfl hs hclos hkind hnames ?_
  refine hsrc.go rm ya fun I fp wr Pt St Mid s₂ l02 y₂ W => ?_
  refine wpAny_newObj_type (wpAny_newFunctionEnv (fun z hz => (hall z hz).1) (by intro z hz; simp at hz) (fun h₁ hns₁ hsb₁ => ?_) hkind)
  dsimp only at hns₁ hsb₁ ⊢
  generalize hH2 : s₂.heap.push { cls := .type "list", dict := none, data := .seq ([] : List Value).toArray } = H2 at hns₁ hsb₁ ⊢
  have hC : H2.objs.size = s₂.heap.objs.size + 1 := by rw [← hH2, Heap.size_push]
  have hDC : s₂.heap.objs.size ≠ H2.objs.size := by rw [hC]; exact Nat.ne_of_lt (Nat.lt_succ_self _)
  have old : ∀ b o, s₂.heap.get? b = some o → h₁.get? b = some o := fun b o e => hsb₁.extBut b o (by
    rw [hC]; exact Nat.ne_of_lt (Nat.lt_succ_of_lt (Heap.lt_size e))) (Heap.get?_push_of_some _ (hH2 ▸ Heap.get?_push_of_some _ e))
  have hacc : h₁.PlainList s₂.heap.objs.size #[] := ⟨_, hsb₁.extBut _ _ hDC (Heap.get?_push_of_some _ (hH2 ▸ Heap.get?_push_size _ rfl))⟩
  have w0 := W.ww A W.hd
  have hst₁ : St 0 h₁ := w0.frame _ _ _ W.st fun b _ o e => old b o e
  have freshC : s₂.heap.get? H2.objs.size = none := get_none_of_size (by rw [hC]; omega)
  have freshD : s₂.heap.get? s₂.heap.objs.size = none := get_none_of_size (Nat.le_refl _)
  have nfp : ∀ b, s₂.heap.objs.size ≤ b → b ∉ fp := fun b hb hm => absurd (W.below b hm) (Nat.not_lt.mpr hb)
  have l2 : Lt κ.T NoX s₂ ⟨h₁, s₂.gens, s₂.drawn, s₂.toks + ([] : List (Str × Value)).length, s₂.os⟩ := .of_keep old
  have loop : codeAny κ.M A (.compLoop (.ListComp elt [⟨.Tuple [.Name x px, .Name y py] kt pt, iter, [], 0⟩] scope pos) 0 (.ref I) (.ref s₂.heap.objs.size) (compEnvC scope cl H2.objs.size env))
      (compPost κ.M A E use Q (.ref s₂.heap.objs.size) H2.objs.size) ⟨h₁, s₂.gens, s₂.drawn, s₂.toks + ([] : List (Str × Value)).length, s₂.os⟩ := by
    refine comp_loop2 (f := f) rm W hz ya l02 l2 y₂.tk freshC freshD hDC (nfp _ (Nat.le_refl _)) (nfp _ (by show s₂.heap.objs.size ≤ H2.objs.size; omega)) hst₁ hacc hns₁ (lookup_relabel_local hx) (lookup_relabel_local hy) hxy (by rw [show (compEnvC scope cl H2.objs.size env).scope.kind = .function from hkind]; rfl) ?_ ?_
    · intro i va vb m h' k hi da db hn ha hb
      refine helt _ i h' k hi ⟨_, F.comp2 k hkind hcl hx hy hn ha hb, fun z d e => ?_⟩
      rw [List.lookup_cons] at e
      unfold compRho2
      by_cases hzx : (z == x) = true
      · rw [hzx] at e; cases e
        rw [if_pos (by simpa using hzx)]
        exact ⟨va, rfl, da _ _⟩
      · simp only [hzx] at e
        have hzx' : z ≠ x := by simpa using hzx
        rw [if_neg hzx']
        rw [List.lookup_cons] at e
        by_cases hzy : (z == y) = true
        · rw [hzy] at e; cases e
          rw [if_pos (by simpa using hzy)]
          exact ⟨vb, rfl, db _ _⟩
        · simp only [hzy] at e
          have hzy' : z ≠ y := by simpa using hzy
          rw [if_neg hzy', if_neg (fun q => by
            have hm := mem_of_lookup' q
            rcases (hall _ hm).2 rfl with e2 | e2 | e2
            · exact hzx' e2
            · exact hzy' e2
            · have e2' : z = (".0" : Str) := e2
              rw [e2', h0] at e; cases e)]
          refine Classical.byContradiction fun nay => ?_
          obtain ⟨w, p, q⟩ := H z d e
          refine nay ?_
          clear nay
          exact ⟨w, p, q.kv (Ext.kv k)⟩
    · rintro s' ys l ⟨m', hn⟩ hl hdat htk
      have vD : V s₂.heap.objs.size := ya.vis _ (.inr (Ext.back l02.ext freshD))
      have ls : Lt κ.T NoX s s' := by
        refine ⟨ExtB.fresh (l02.trans l2).ext l.ext ?_, fun g => l.gens ((l02.trans l2).gens g), l.os.trans (l02.trans l2).os, fun g => l.ok ((l02.trans l2).ok g), fun g => ⟨(l.same g).1.trans ((l02.trans l2).same g).1, (l.same g).2.trans ((l02.trans l2).same g).2⟩⟩
        rintro b (rfl | rfl | hb)
        · exact Ext.back l02.ext freshC
        · exact Ext.back l02.ext freshD
        · exact W.new b hb
      exact hend _ _ s' (.list vD hl hdat) ls (Ext.back l02.ext freshC) ⟨m', hn⟩ hDC.symm ⟨ya.ext.trans ls.ext, htk, ls.ok ya.ok, fun b e => ya.vis b (e.imp id fun q => Ext.back ls.ext q)⟩
  exact codeAny_compStart_list loop (w0.self 0 _ _ _ hst₁ loop)
end Mine
end
section
open PySem PySem.W PySem.W.X PyProof.Rows PySem.Calls
set_option Elab.async false
set_option maxRecDepth 100000
set_option maxHeartbeats 1000000
namespace Mine
variable {κ : Cx} {n : Nat} {env : Env} {h : Heap} {A : Around} {s : Shared} {V : Addr → Prop} {δ : Del} {ρ : Str → Option Value}
noncomputable def onlyDot (scope : Scope) : Bool := scope.names.all fun z => (z.2 != .local || z.1 == (".0" : Str))
/-- a comprehension whose one target is a cell, no test -/
theorem core_mapC {elt iter : Expr} {x : Str} {px : Pos} {scope : Scope} {pos : Pos} {cl : List (Str × Addr)} {ds : List Da} {f : Da → Da}
    (hsrc : Src κ n env h iter ds) (hz : ds.length ≤ sizeLine) (hclos : closureFor scope env = pure cl) (hcl : clB env cl)
    (helt : ∀ C c (i : Nat) d h', Ext κ.T h h' → ds[i]? = some d → Fd κ h' (compEnvC scope ((x, c) :: cl) C env) ((x, d) :: δ) → Ev κ n (compEnvC scope ((x, c) :: cl) C env) h' elt (Is (f d)))
    (hcf : ∀ L, cellsFrom L scope.names cl = (x, L) :: cl := by intro _; rfl) (hpc : ∀ h : Heap, pushCells h scope.names = h.push { cls := .type "cell", data := .cell none } := by intro _; rfl)
    (hx : scope.names.lookup x ≠ some .local := by decide) (hxk : ∀ C c, (compEnvC scope ((x, c) :: cl) C env).kindOf x = some .cell := by intro _ _; rfl)
    (ho : onlyDot scope = true := by rfl) (h0 : δ.lookup (".0" : Str) = none := by rfl) (h1 : scope.names.lookup (".0" : Str) = some .local := by rfl) (hkind : scope.kind = .function := by rfl)
    (hs : ∀ x, foldedSetIterable iter env x = pure x := by intro _; rfl) : Core κ n h env δ (.ListComp elt [⟨.Name x px, iter, [], 0⟩] scope pos) scope iter (.list (ds.map f)) := by
  have hdot : ∀ z, scope.names.lookup z = some .local → z = (".0" : Str) := fun z e => by
    have := List.all_eq_true.mp ho _ (mem_of_lookup' e)
    simpa using this
  have hnames : ∀ z ∈ scope.names, z.2 = .local → scope.names.lookup z.1 = some .local := fun z hz e => by
    have := List.all_eq_true.mp ho z hz
    rw [e] at this
    have e2 : z.1 = (".0" : Str) := by simpa using this
    rw [e2]; exact h1
  intro A s V ρ use Q E pos' G H rm y hend
  refine comp_coreC (elt := elt) (A := A) (s := s) (V := V) (px := px) (pos := pos) (ifs := []) (keep := fun _ => true) (f := f) G hsrc hz hclos hcl hcf hpc hkind hnames hx hxk (fun C c i v d h' k e dv F' => evt_nil) (fun C c i v d h' k e dv F' _ => ?_) hs rm y fun D C s' dat l hC hnC hCD y' => ?_
  · refine helt C c i d h' k e ⟨_, F', fun z u e' => ?_⟩
    rw [List.lookup_cons] at e'
    unfold compRho
    by_cases hz' : (z == x) = true
    · rw [hz'] at e'; cases e'
      rw [if_pos (by simpa using hz')]
      exact ⟨v, rfl, dv⟩
    · simp only [hz'] at e'
      rw [if_neg (by simpa using hz'), if_neg (fun q => by rw [hdot z q, h0] at e'; cases e')]
      obtain ⟨w, p, q⟩ := H z u e'
      exact ⟨w, p, q.kv (Ext.kv k)⟩
  · rw [List.filter_eq_self.mpr (fun _ _ => rfl)] at dat
    exact hend D C s' dat l hC hnC hCD y'
end Mine
end
section
open PySem PySem.W PySem.W.X PyProof.Rows PySem.Calls
set_option Elab.async false
set_option maxRecDepth 100000
set_option maxHeartbeats 1000000
namespace Mine
/-! ## shapes of data -/
/-- can be compared, at most so deep -/
structure Sh (k : Nat) (d : Da) : Prop where
  cl : d.py.canLay0 = true
  dp : d.py.depth ≤ k
  pu : d.pure = true
structure Shs (k : Nat) (l : List Da) : Prop where
  cl : PyData.canLayAll0 (Da.pys l) = true
  dp : PyData.depthAll (Da.pys l) ≤ k
  pu : Da.pures l = true
theorem Sh.int {i : Int} : Sh 0 (.int i) := ⟨rfl, by simp [Da.py, PyData.depth], rfl⟩
theorem Sh.bool {i : Bool} : Sh 0 (.bool i) := ⟨rfl, by simp [Da.py, PyData.depth], rfl⟩
theorem Sh.str {x : Str} (h : PyData.strOk x = true) : Sh 0 (.str x) := ⟨by simp [Da.py, PyData.canLay0, h], by simp [Da.py, PyData.depth], rfl⟩
theorem Shs.nil {k : Nat} : Shs k [] := ⟨rfl, by simp [Da.pys, PyData.depthAll], rfl⟩
theorem Shs.cons {k : Nat} {a : Da} {l : List Da} (x : Sh k a) (y : Shs k l) : Shs k (a :: l) :=
  ⟨by simp [Da.pys, PyData.canLayAll0, x.cl, y.cl], by have := x.dp; have := y.dp; simp only [Da.pys, PyData.depthAll]; omega, by simp [Da.pures, x.pu, y.pu]⟩
theorem Sh.list {k : Nat} {l : List Da} (x : Shs k l) : Sh (k + 1) (.list l) := ⟨by simp [Da.py, PyData.canLay0, x.cl], by have := x.dp; simp only [Da.py, PyData.depth]; omega, by rw [Da.pure]; exact x.pu⟩
theorem Sh.tup {k : Nat} {l : List Da} (x : Shs k l) : Sh (k + 1) (.tup l) := ⟨by simp [Da.py, PyData.canLay0, x.cl], by have := x.dp; simp only [Da.py, PyData.depth]; omega, by rw [Da.pure]; exact x.pu⟩
theorem Shs.map {α : Type} {k : Nat} {g : α → Da} : ∀ {l : List α}, (∀ a ∈ l, Sh k (g a)) → Shs k (l.map g)
  | [], _ => .nil
  | a :: l, h => .cons (h a (List.mem_cons_self ..)) (Shs.map fun b hb => h b (List.mem_cons_of_mem _ hb))
theorem Sh.nums {ns : List Int} : Sh 1 (.list (nums ns)) := .list (Shs.map fun _ _ => .int)
theorem Sh.shaped {k : Nat} {d : Da} (x : Sh k d) (h : k ≤ 64) : SeqAt.shaped d.py = true := Bool.and_eq_true_iff.mpr ⟨x.cl, decide_eq_true (Nat.le_trans x.dp h)⟩
theorem Sh.eqv {k : Nat} {d : Da} (x : Sh k d) : PyData.eqv d.py d.py = true := SeqAt.eqv_refl d.py x.cl
/-- equal data are equal -/
theorem evb_ne_same {κ : Cx} {n : Nat} {env : Env} {h : Heap} {l r : Expr} {pos : Pos} {k : Nat} {a b : Da} (h1 : Ev κ (n + 1) env h l (Is a)) (h2 : Ev κ (n + 1) env h r (Is b)) (x : Sh k a) (e : a = b) (hk : k ≤ 64) (hm : behindInMarks .NotEq r = false := by with_unfolding_all rfl) : EvB κ (n + 1) env h (.Compare l [.NotEq] [r] pos) false := by
  subst e
  exact evb_ne h1 h2 (x.shaped hk) (x.shaped hk) x.pu x.pu (by rw [x.eqv]; rfl) hm
theorem eqv_nums : ∀ a b : List Int, PyData.eqvAll (Da.pys (nums a)) (Da.pys (nums b)) = (a == b)
  | [], [] => rfl
  | [], _ :: _ => rfl
  | _ :: _, [] => rfl
  | x :: a, y :: b => by
    show (PyData.eqv (.int x) (.int y) && PyData.eqvAll (Da.pys (nums a)) (Da.pys (nums b))) = _
    rw [eqv_nums a b]
    simp [PyData.eqv]
end Mine
end
section
open PySem PySem.W PySem.W.X PyProof.Rows PySem.Calls
set_option Elab.async false
set_option maxRecDepth 100000
set_option maxHeartbeats 1000000
namespace Mine
variable {κ : Cx} {n : Nat} {env : Env} {h : Heap} {δ : Del}
/-! ## zip of two lists of texts -/
noncomputable def zipP (xs ys : List Str) (i : Nat) : Da × Da := (.str (xs.getD i ""), .str (ys.getD i ""))
theorem str_at {V : Addr → Prop} {xs : List Str} {vs : List Value} {i : Nat} {v : Value} (r : Dns V h vs (xs.map Da.str)) (e : vs[i]? = some v) : ∃ t, v = .str (xs.getD i "") t := by
  obtain ⟨d, e1, e2⟩ := r.get' e
  simp only [List.getElem?_map, Option.map_eq_some_iff] at e1
  obtain ⟨x, ex, rfl⟩ := e1
  cases e2
  exact ⟨_, by simp only [List.getD, ex, Option.getD_some]; rfl⟩
theorem zip_apart (N a b : Nat) (ha : a < N) (hb : b < N) : ZipApart (N + 4) (N + 2) (N + 3) N (N + 1) a b := by
  have ne : ∀ x y : Nat, x < y → x ≠ y := fun x y h => Nat.ne_of_lt h
  have en : ∀ x y : Nat, y < x → x ≠ y := fun x y h => Nat.ne_of_gt h
  constructor <;> first | exact ne _ _ (by omega) | exact en _ _ (by omega)
theorem src_zip {e1 e2 : Expr} {p pos : Pos} {xs ys : List Str} (F : Fd κ h env δ) (bl : Blt κ "zip" (.type "zip")) (a : Ev κ n env h e1 (Is (.list (xs.map .str)))) (b : Ev κ n env h e2 (Is (.list (ys.map .str)))) (hl : ys.length = xs.length) (hk : env.kindOf "zip" = some .globalImplicit := by rfl)
    (he : ∀ pos, backTo pos (starEach [e1, e2] env) = (false, eval e1 env) :: backTo pos (starEach [e2] env) := by intro _; rfl) (he' : ∀ pos, backTo pos (starEach [e2] env) = (false, eval e2 env) :: backTo pos (starEach [] env) := by intro _; rfl)
    (hp : ∀ pos, (backTo pos (starEach [e1, e2] env)).any (·.1) = false := by intro _; rfl) : Src2 κ n env h (.Call (.Name "zip" p) [e1, e2] [] pos) xs.length (zipP xs ys) := by
  intro A s V rm y
  refine wpost fun Q1 E1 hQ1 _ => ?_
  refine wpAny_Call_NameR (wpAny_Name (F.blt bl hk A _ _ s y.ext ?_) (by decide))
  refine PySem.callWith_type (hp pos) ?_
  have z := fun Q k => (evl_is a (evl_is b evl_is_nil he') he).go (A := A) (s := s) (V := V) (Q := Q) (E := E1) pos rm y k
  rw [he] at z ⊢
  refine evalArgs_plain (z _ fun vs s1 pv l1 y1 => ?_)
  cases pv with | cons pa pv =>
  cases pv with | cons pb pv =>
  cases pv
  cases pa with
  | @list ax items _ va pl r =>
  cases pb with
  | @list bx jtems _ vb pm q =>
  have hax : ax < s1.heap.objs.size := by obtain ⟨_, e⟩ := pl; exact Heap.lt_size e
  have hbx : bx < s1.heap.objs.size := by obtain ⟨_, e⟩ := pm; exact Heap.lt_size e
  have hlen : items.size = xs.length := by rw [← Array.length_toList, r.length, List.length_map]
  have hlen2 : jtems.size = xs.length := by rw [← Array.length_toList, q.length, List.length_map, hl]
  refine call_zip_2 pl.isList pm.isList fun h' hz hTI hTO h1 h2 hsz hk' => ?_
  have keep : ∀ b o, s1.heap.get? b = some o → h'.get? b = some o := hk'
  refine hQ1 _ _ (wpAny_pyIter_zip hz ?_)
  clear hQ1
  refine Classical.byContradiction fun no => ?_
  have l2 : Lt κ.T NoX s { s1 with heap := h' } := l1.trans (.of_keep keep)
  have D : ZipApart (s1.heap.objs.size + 4) (s1.heap.objs.size + 2) (s1.heap.objs.size + 3) s1.heap.objs.size (s1.heap.objs.size + 1) ax bx := zip_apart _ _ _ hax hbx
  have ww := fun (A' : Around) (hA : A'.handled = none) => (WalksT.zip2 (prog := κ.prog) (w := κ.w) (A := A') hA _ _ _ _ _ _ _ D items jtems).toU
  rw [hlen, hlen2, Nat.min_self] at ww
  refine no ⟨l2, _, _, _, _, _, _, rfl, ⟨rm.hd, ww, ?_, ?_, ?_, ⟨hz, hTI, ⟨_, _, hTO⟩, h1, h2, pl.isList.at fun o e => keep ax o e, pm.isList.at fun o e => keep bx o e⟩, ?_, ?_, ?_⟩⟩
  · rintro i hh ⟨e1, e2, ⟨_, _, e3⟩, ⟨o4, e4, c4, _⟩, ⟨o5, e5, c5, _⟩, ⟨o6, e6, c6, _⟩, ⟨o7, e7, c7, _⟩⟩ b hb ob eb
    simp only [List.mem_cons, List.not_mem_nil, or_false] at hb
    have no : ∀ {T : String}, T ≠ "code" → (Value.type T ≠ Value.none ∧ Value.type T ≠ Value.type "code") := fun hT => ⟨fun z => (by cases z), fun z => hT (by cases z; rfl)⟩
    rcases hb with rfl | rfl | rfl | rfl | rfl | rfl | rfl
    · rw [e1] at eb; cases eb; exact no (by decide)
    · rw [e2] at eb; cases eb; exact no (by decide)
    · rw [e3] at eb; cases eb; exact no (by decide)
    · rw [e4] at eb; cases eb; rw [c4]; exact no (by decide)
    · rw [e5] at eb; cases eb; rw [c5]; exact no (by decide)
    · rw [e6] at eb; cases eb; rw [c6]; exact no (by decide)
    · rw [e7] at eb; cases eb; rw [c7]; exact no (by decide)
  · rintro i T hh ⟨e1, e2, ⟨_, _, e3⟩, ⟨o4, e4, c4, _⟩, ⟨o5, e5, c5, _⟩, _⟩ b hb ob eb
    simp only [List.mem_cons, List.not_mem_nil, or_false] at hb
    have no : ∀ {T : String}, T ≠ "code" → (Value.type T ≠ Value.none ∧ Value.type T ≠ Value.type "code") := fun hT => ⟨fun z => (by cases z), fun z => hT (by cases z; rfl)⟩
    rcases hb with rfl | rfl | rfl | rfl
    · rw [e1] at eb; cases eb; exact no (by decide)
    · rw [e3] at eb; cases eb; exact no (by decide)
    · rw [e4] at eb; cases eb; rw [c4]; exact no (by decide)
    · rw [e5] at eb; cases eb; rw [c5]; exact no (by decide)
  · rintro i hh ⟨e1, e2, ⟨_, _, e3⟩, ⟨o4, e4, c4, _⟩, ⟨o5, e5, c5, _⟩, _⟩ b hb q
    simp only [List.mem_cons, List.not_mem_nil, or_false] at hb
    rcases hb with rfl | rfl | rfl | rfl
    · rw [e1] at q; cases q
    · rw [e3] at q; cases q
    · rw [e4] at q; cases q
    · rw [e5] at q; cases q
  · intro b hb
    show b < h'.objs.size
    simp only [List.mem_cons, List.not_mem_nil, or_false] at hb
    rw [hsz]
    rcases hb with e | e | e | e | e | e | e <;> rw [e] <;> first | exact Nat.lt_add_of_pos_right (by decide) | exact Nat.add_lt_add_left (by decide) _ | exact Nat.lt_add_right _ hax | exact Nat.lt_add_right _ hbx
  · intro b hb
    simp only [List.mem_cons, List.not_mem_nil, or_false] at hb
    rcases hb with e | e | e | e <;> rw [e] <;> exact Ext.back l1.ext (get_none_of_size (by first | exact Nat.le_refl _ | exact Nat.le_add_right _ _))
  · rintro i vals hi' ⟨x, y', hx, hy, rfl⟩
    obtain ⟨t, rfl⟩ := str_at r (i := i) (v := x) (by simpa using hx)
    obtain ⟨u, rfl⟩ := str_at q (i := i) (v := y') (by simpa using hy)
    exact ⟨_, _, rfl, fun _ _ => .str _ _, fun _ _ => .str _ _⟩
end Mine
end
section
open PySem PySem.W PySem.W.X PyProof.Rows PySem.Calls
set_option Elab.async false
set_option maxRecDepth 100000
set_option maxHeartbeats 1000000
namespace Mine
variable {κ : Cx} {n : Nat} {env : Env} {h : Heap} {A : Around} {s : Shared} {V : Addr → Prop} {δ : Del} {ρ : Str → Option Value}
/-! ## a comprehension of two clauses -/
theorem compTurn0 (elt t1 i1 t2 i2 : Expr) (scope : Scope) (pos : Pos) (it acc : Value) (env : Env) :
    compTurn (.ListComp elt [⟨t1, i1, [], 0⟩, ⟨t2, i2, [], 0⟩] scope pos) 0 it acc env = (standAt i1.pos >>= fun _ => pyNext it >>= fun r => match r with
      | none => pure (.done .next)
      | some v => letOwnedTupleGo t1 it v >>= fun _ => assign t1 env v >>= fun _ =>
        eval i2 env >>= fun x => standAt i2.pos >>= fun _ => foldedSetIterable i2 env x >>= fun x => holding [x] (pyIter x) >>= fun i => runOwn (.compStart (.ListComp elt [⟨t1, i1, [], 0⟩, ⟨t2, i2, [], 0⟩] scope pos) 1 i acc env) env >>= fun _ =>
          again (.compLoop (.ListComp elt [⟨t1, i1, [], 0⟩, ⟨t2, i2, [], 0⟩] scope pos) 0 it acc env)) := by rfl
theorem compTurn1 (elt t1 i1 t2 i2 : Expr) (scope : Scope) (pos : Pos) (it acc : Value) (env : Env) :
    compTurn (.ListComp elt [⟨t1, i1, [], 0⟩, ⟨t2, i2, [], 0⟩] scope pos) 1 it acc env = (standAt i2.pos >>= fun _ => pyNext it >>= fun r => match r with
      | none => pure (.done .next)
      | some v => letOwnedTupleGo t2 it v >>= fun _ => assign t2 env v >>= fun _ =>
        (eval elt env >>= fun x => call (.builtin "list.append") [acc, x] >>= fun _ => pure ()) >>= fun _ =>
          again (.compLoop (.ListComp elt [⟨t1, i1, [], 0⟩, ⟨t2, i2, [], 0⟩] scope pos) 1 it acc env)) := by rfl
theorem turns0 {elt i1 i2 : Expr} {x z : Str} {p1 p2 : Pos} {scope : Scope} {pos : Pos} {I : Addr} {acc : Value} {cenv : Env} (hs : ∀ v, foldedSetIterable i2 cenv v = pure v) :
    Turns κ A (.compLoop (.ListComp elt [⟨.Name x p1, i1, [], 0⟩, ⟨.Name z p2, i2, [], 0⟩] scope pos) 0 (.ref I) acc cenv) (.Name x p1) cenv I
      (fun _ Z s₂ => ∀ E : Value → Shared → Prop, wpAny κ.M A (eval i2 cenv) (fun v s₃ => wpAny κ.M A (pyIter v) (fun i s₄ => codeAny κ.M A (.compStart (.ListComp elt [⟨.Name x p1, i1, [], 0⟩, ⟨.Name z p2, i2, [], 0⟩] scope pos) 1 i acc cenv) (fun r s₅ => r = .ok .next ∧ Z s₅) s₄) E s₃) E s₂) := by
  intro J R turn n s hJ
  refine codeAny_loop rfl J (fun n s hI => ?_) n hJ
  show wpAny _ A ((compTurn (.ListComp elt [⟨.Name x p1, i1, [], 0⟩, ⟨.Name z p2, i2, [], 0⟩] scope pos) 0 (.ref I) acc cenv).onRaise (fun x => do noteFrame x cenv; theTreesLotGoes x)) _ _ s
  refine wpAny_noted ?_
  rw [compTurn0]
  refine wpAny_bind (wpAny_standAt (wpAny_bind (wpAny_mono (turn n s hI _) (fun r s₁ h₁ => ?_) fun _ _ h' => h')))
  cases r with
  | none => exact wpAny_pure h₁
  | some v =>
    refine wpAny_bind (wpAny_of_eq rfl ?_)
    refine wpAny_bind (wpAny_mono h₁ (fun _ s₂ h₂ => wpAny_bind (wpAny_mono (h₂ _) (fun u s₃ h₃ => ?_) fun _ _ h' => h')) fun _ _ h' => h')
    refine wpAny_bind (wpAny_standAt (wpAny_bind (wpAny_of_eq (hs u) (wpAny_bind (wpAny_holding (wpAny_mono h₃ (fun i s₄ h₄ => ?_) fun _ _ h' => h'))))))
    refine wpAny_bind (wpAny_runOwn (codeAny_mono h₄ fun r s₅ q => ?_))
    obtain ⟨rfl, q⟩ := q
    exact wpAny_pure ⟨rfl, q⟩
theorem turns1 {elt i1 i2 t1 : Expr} {z : Str} {p2 : Pos} {scope : Scope} {pos : Pos} {I : Addr} {acc : Value} {cenv : Env} :
    Turns κ A (.compLoop (.ListComp elt [⟨t1, i1, [], 0⟩, ⟨.Name z p2, i2, [], 0⟩] scope pos) 1 (.ref I) acc cenv) (.Name z p2) cenv I
      (fun _ Z s₂ => ∀ E : Value → Shared → Prop, wpAny κ.M A (eval elt cenv) (fun u s₃ => wpAny κ.M A (call (.builtin "list.append") [acc, u]) (fun _ s₄ => Z s₄) E s₃) E s₂) := by
  intro J R turn n s hJ
  refine codeAny_loop rfl J (fun n s hI => ?_) n hJ
  show wpAny _ A ((compTurn (.ListComp elt [⟨t1, i1, [], 0⟩, ⟨.Name z p2, i2, [], 0⟩] scope pos) 1 (.ref I) acc cenv).onRaise (fun x => do noteFrame x cenv; theTreesLotGoes x)) _ _ s
  refine wpAny_noted ?_
  rw [compTurn1]
  refine wpAny_bind (wpAny_standAt (wpAny_bind (wpAny_mono (turn n s hI _) (fun r s₁ h₁ => ?_) fun _ _ h' => h')))
  cases r with
  | none => exact wpAny_pure h₁
  | some v =>
    refine wpAny_bind (wpAny_of_eq rfl ?_)
    exact wpAny_bind (wpAny_mono h₁ (fun _ s₂ h₂ => wpAny_bind (wpAny_bind (wpAny_mono (h₂ _) (fun u s₃ h₃ => wpAny_bind (wpAny_mono h₃ (fun _ s₄ q => wpAny_pure (wpAny_pure ⟨rfl, q⟩)) fun _ _ h' => h')) fun _ _ h' => h'))) fun _ _ h' => h')
theorem compStart1 {elt t1 i1 t2 i2 : Expr} {scope : Scope} {pos : Pos} {it acc : Value} {env : Env} {R : Result → Shared → Prop}
    (h0 : codeAny κ.M A (.compLoop (.ListComp elt [⟨t1, i1, [], 0⟩, ⟨t2, i2, [], 0⟩] scope pos) 1 it acc env) R s)
    (h : wpAny κ.M A (pyIter it) (fun it' s' => codeAny κ.M A (.compLoop (.ListComp elt [⟨t1, i1, [], 0⟩, ⟨t2, i2, [], 0⟩] scope pos) 1 it' acc env) R s') (notedBy κ.M A env fun x s' => R (.error x) s') s) :
    codeAny κ.M A (.compStart (.ListComp elt [⟨t1, i1, [], 0⟩, ⟨t2, i2, [], 0⟩] scope pos) 1 it acc env) R s := by
  refine codeAny_of_tree ?_
  show wpAny _ _ ((compStart (.ListComp elt [⟨t1, i1, [], 0⟩, ⟨t2, i2, [], 0⟩] scope pos) 1 it acc env).onRaise (fun x => do noteFrame x env; standAt theWindowsPlace)) _ _ s
  refine wpAny_notedAt ?_
  unfold compStart
  show wpAny _ _ (ask >>= _) _ _ s
  refine wpAny_bind (wpAny_askSetting (wpAny_ite ?_))
  split
  · first
      | exact wpAny_bind (wpAny_pure (wpAny_pure (And.intro rfl h0)))
      | exact wpAny_pure (And.intro rfl h0)
  · refine wpAny_bind (wpAny_rule ?_)
    show wpAny _ _ (standAt i2.pos >>= _) _ _ s
    exact wpAny_bind (wpAny_standAt (wpAny_bind (wpAny_mono h (fun it' s' h' => wpAny_pure (And.intro rfl h')) fun _ _ x => x)))
/-- a source whose iterator alone is walked -/
noncomputable def SrcO (κ : Cx) (n : Nat) (env : Env) (h : Heap) (iter : Expr) (ds : List Da) : Prop :=
  ∀ A s V, Rm n A → At κ h V s → wpAny κ.M A (eval iter env) (fun xv s₁ => wpAny κ.M A (pyIter xv) (fun it s₂ => Lt κ.T NoX s s₂ ∧ ∃ I wr P St, it = .ref I ∧ Wk κ A V s s₂ I ds wr wr P St) (fun _ _ => False) s₁) (fun _ _ => False) s
theorem SrcO.go {iter : Expr} {ds : List Da} (x : SrcO κ n env h iter ds) (rm : Rm n A) (y : At κ h V s) {Q : Value → Shared → Prop} {E : Value → Shared → Prop}
    (k : ∀ I wr P St s₂, Lt κ.T NoX s s₂ → At κ h V s₂ → Wk κ A V s s₂ I ds wr wr P St → Q (.ref I) s₂) : wpAny κ.M A (eval iter env) (fun xv s₁ => wpAny κ.M A (pyIter xv) Q E s₁) E s :=
  wpAny_mono (wpAny_toks_of y.tk (x A s V rm y)) (fun xv s₁ q => wpAny_mono (wpAny_toks_of q.1 q.2) (fun it s₂ z => by
    refine Classical.byContradiction fun nay => ?_
    obtain ⟨t, l, I, wr, P, St, rfl, W⟩ := z
    refine nay ?_
    clear nay
    exact k I wr P St s₂ l (y.on l t) W) fun _ _ f => f.2.elim) fun _ _ f => f.2.elim
theorem src_rangeO {iter : Expr} {k : Nat} (hk : k ≤ 1000000) (a : Ev κ n env h iter (Rg k)) : SrcO κ n env h iter (upto k) := by
  intro A s V rm y
  refine a.go rm y fun v s1 pv l1 y1 => ?_
  refine Classical.byContradiction fun nay => ?_
  obtain ⟨r, t, u, w, rfl, R⟩ := pv
  refine nay ?_
  clear nay
  have hsz : Builtin.Range.rangeSize 0 k 1 = k := by
    rw [rangeSize_one]
    split <;> omega
  have hsm : Builtin.Range.small 0 k 1 = true := small_one (by omega) (by omega) (by omega) (by omega)
  refine wpAny_pyIter_range R hsm ⟨l1.trans .newObj, s1.heap.objs.size, _, _, _, rfl, Wk.one rm l1 (fun A' hd => by rw [upto_length]; exact Walks.range hd s1.heap.objs.size 0 1 k) ?_ ?_ ?_⟩
  · rw [hsz]
    show IsRangeIter _ _ _ _ _
    have := Heap.get?_push_size (h := s1.heap) (o := { cls := .type "range_iterator", data := .fields #[rawInt 0, rawInt (k : Int), rawInt 1] }) rfl
    simpa using this
  · intro i h' ho
    exact ⟨_, _, _, ho, rfl, by decide, rfl⟩
  · rintro i v hi ⟨t, rfl⟩
    rw [upto_length] at hi
    refine ⟨_, upto_get hi, fun h' => ?_⟩
    rw [show (0 : Int) + (i : Int) * 1 = i by omega]
    exact .int _ _
theorem Fd.nest {scope : Scope} {cl : List (Str × Addr)} {C : Addr} {x z : Str} {v : Value} {d : Da} {h' : Heap} (H : Holds Tr h ρ δ) (k : Ext κ.T h h') (ho : ∀ y, scope.names.lookup y = some .local → y = x ∨ y = z ∨ y = (".0" : Str)) (h0 : δ.lookup (".0" : Str) = none) (hz0 : δ.lookup z = none) (dv : Dn Tr h' v d)
    (F : Fm κ h' (compEnvC scope cl C env) (compRho scope x v ρ)) : Fd κ h' (compEnvC scope cl C env) ((x, d) :: δ) := ⟨_, F, fun y u e => by
  rw [List.lookup_cons] at e
  unfold compRho
  by_cases hy : (y == x) = true
  · rw [hy] at e; cases e
    rw [if_pos (by simpa using hy)]
    exact ⟨v, rfl, dv⟩
  · simp only [hy] at e
    rw [if_neg (by simpa using hy), if_neg (fun q => by
      rcases ho y q with r | r | r
      · exact hy (by simpa using r)
      · rw [r, hz0] at e; cases e
      · rw [r, h0] at e; cases e)]
    refine Classical.byContradiction fun nay => ?_
    obtain ⟨w, p, q⟩ := H y u e
    refine nay ?_
    clear nay
    exact ⟨w, p, q.kv (Ext.kv k)⟩⟩
theorem Fd.nest2 {scope : Scope} {cl : List (Str × Addr)} {C : Addr} {x z : Str} {v u : Value} {d e : Da} {h' : Heap} (H : Holds Tr h ρ δ) (k : Ext κ.T h h') (ho : ∀ y, scope.names.lookup y = some .local → y = x ∨ y = z ∨ y = (".0" : Str)) (h0 : δ.lookup (".0" : Str) = none) (hxz : x ≠ z) (dv : Dn Tr h' v d) (du : Dn Tr h' u e)
    (F : Fm κ h' (compEnvC scope cl C env) (compRho2 scope x v z u ρ)) : Fd κ h' (compEnvC scope cl C env) ((z, e) :: (x, d) :: δ) := ⟨_, F, fun y w q => by
  rw [List.lookup_cons] at q
  unfold compRho2
  by_cases hy : (y == z) = true
  · rw [hy] at q; cases q
    have hy' : y = z := by simpa using hy
    rw [if_neg (fun r => hxz (r.symm.trans hy')), if_pos hy']
    exact ⟨u, rfl, du⟩
  · simp only [hy] at q
    rw [List.lookup_cons] at q
    by_cases hx : (y == x) = true
    · rw [hx] at q; cases q
      rw [if_pos (by simpa using hx)]
      exact ⟨v, rfl, dv⟩
    · simp only [hx] at q
      rw [if_neg (by simpa using hx), if_neg (by simpa using hy), if_neg (fun l => by
        rcases ho y l with r | r | r
        · exact hx (by simpa using r)
        · exact hy (by simpa using r)
        · rw [r, h0] at q; cases q)]
      refine Classical.byContradiction fun nay => ?_
      obtain ⟨a, p, b⟩ := H y w q
      refine nay ?_
      clear nay
      exact ⟨a, p, b.kv (Ext.kv k)⟩⟩
theorem core_nest {elt iter iter2 : Expr} {x z : Str} {px pz : Pos} {scope : Scope} {pos : Pos} {cl : List (Str × Addr)} {ds : List Da} {es : Da → List Da} {f : Da → Da → Da}
    (hsrc : Src κ n env h iter ds) (hz : (ds.flatMap fun d => (es d).map (f d)).length ≤ sizeLine) (hclos : closureFor scope env = pure cl) (hcl : clB env cl)
    (hsrc2 : ∀ C (i : Nat) d h', Ext κ.T h h' → ds[i]? = some d → Fd κ h' (compEnvC scope cl C env) ((x, d) :: δ) → SrcO κ n (compEnvC scope cl C env) h' iter2 (es d))
    (helt : ∀ C (i j : Nat) d e h', Ext κ.T h h' → ds[i]? = some d → (es d)[j]? = some e → Fd κ h' (compEnvC scope cl C env) ((z, e) :: (x, d) :: δ) → Ev κ n (compEnvC scope cl C env) h' elt (Is (f d e)))
    (ho : onlyLocal2 scope x z = true := by rfl) (h0 : δ.lookup (".0" : Str) = none := by rfl) (hz0 : δ.lookup z = none := by rfl) (hkind : scope.kind = .function := by rfl) (hx : scope.names.lookup x = some .local := by rfl) (hy : scope.names.lookup z = some .local := by rfl) (hd0 : scope.names.lookup (".0" : Str) = some .local := by rfl) (hxz : x ≠ z := by decide)
    (hs : ∀ v, foldedSetIterable iter env v = pure v := by intro _; rfl) (hs2 : ∀ C v, foldedSetIterable iter2 (compEnvC scope cl C env) v = pure v := by intro _ _; rfl) :
    Core κ n h env δ (.ListComp elt [⟨.Name x px, iter, [], 0⟩, ⟨.Name z pz, iter2, [], 0⟩] scope pos) scope iter (.list (ds.flatMap fun d => (es d).map (f d))) := by
  intro A s V ρ use Q E pos' F H rm y hend
  have hall : ∀ w ∈ scope.names, (w.2 ≠ .cell) ∧ (w.2 = .local → w.1 = x ∨ w.1 = z ∨ w.1 = (".0" : Str)) := fun w hw => by
    have := List.all_eq_true.mp ho w hw
    refine ⟨fun e => by rw [e] at this; simp at this, fun e => by rw [e] at this; simpa using this⟩
  have hnames : ∀ w ∈ scope.names, w.2 = .local → scope.names.lookup w.1 = some .local := fun w hw e => by
    rcases (hall w hw).2 e with e2 | e2 | e2
    · rw [e2]; exact hx
    · rw [e2]; exact hy
    · rw [e2]; exact hd0
  have hol : ∀ w, scope.names.lookup w = some .local → w = x ∨ w = z ∨ w = (".0" : Str) := fun w e => (hall _ (mem_of_lookup' e)).2 rfl
  refine wpAny_comprehension_free (g := ⟨.Name x px, iter, [], 0⟩) (gs := [⟨.Name z pz, iter2, [], 0⟩]) rfl hs hclos hkind hnames ?_
  refine hsrc.go rm y fun I fp wr P St s₂ l02 y₂ W => ?_
  refine wpAny_newObj_type (wpAny_newFunctionEnv (fun w hw => (hall w hw).1) (by intro z hz; simp at hz) (fun h₁ hns₁ hsb₁ => ?_) hkind)
  dsimp only at hns₁ hsb₁ ⊢
  generalize hH2 : s₂.heap.push { cls := .type "list", dict := none, data := .seq ([] : List Value).toArray } = H2 at hns₁ hsb₁ ⊢
  have hC : H2.objs.size = s₂.heap.objs.size + 1 := by rw [← hH2, Heap.size_push]
  have hDC : s₂.heap.objs.size ≠ H2.objs.size := by rw [hC]; exact Nat.ne_of_lt (Nat.lt_succ_self _)
  have old : ∀ b o, s₂.heap.get? b = some o → h₁.get? b = some o := fun b o e => hsb₁.extBut b o (by
    rw [hC]; exact Nat.ne_of_lt (Nat.lt_succ_of_lt (Heap.lt_size e))) (Heap.get?_push_of_some _ (hH2 ▸ Heap.get?_push_of_some _ e))
  have hacc : h₁.PlainList s₂.heap.objs.size #[] := ⟨_, hsb₁.extBut _ _ hDC (Heap.get?_push_of_some _ (hH2 ▸ Heap.get?_push_size _ rfl))⟩
  have hst₁ : St 0 h₁ := W.w.frame _ _ _ W.st fun b _ o e => old b o e
  have freshC : s₂.heap.get? H2.objs.size = none := get_none_of_size (by rw [hC]; omega)
  have freshD : s₂.heap.get? s₂.heap.objs.size = none := get_none_of_size (Nat.le_refl _)
  have nfp : ∀ b, s₂.heap.objs.size ≤ b → b ∉ fp := fun b hb hm => absurd (W.below b hm) (Nat.not_lt.mpr hb)
  have l2 : Lt κ.T NoX s₂ ⟨h₁, s₂.gens, s₂.drawn, s₂.toks + ([] : List (Str × Value)).length, s₂.os⟩ := .of_keep old
  have l02' := l02.trans l2
  have ok₁ := l02'.ok y.ok
  generalize H2.objs.size = C at hns₁ hsb₁ hDC freshC hC ⊢
  generalize s₂.heap.objs.size = D at hacc freshD hDC hC nfp ⊢
  generalize hs₁ : (⟨h₁, s₂.gens, s₂.drawn, s₂.toks + ([] : List (Str × Value)).length, s₂.os⟩ : Shared) = s₁ at l2 l02' ok₁ ⊢
  have hh₁ : s₁.heap = h₁ := by rw [← hs₁]
  rw [← hh₁] at hns₁ hacc hst₁
  have tk₁ : 0 < s₁.toks := by rw [← hs₁]; exact y₂.tk
  have fC : s.heap.get? C = none := Ext.back l02.ext freshC
  have fD : s.heap.get? D = none := Ext.back l02.ext freshD
  have vC : V C := y.vis _ (.inr fC)
  have vD : V D := y.vis _ (.inr fD)
  have xfresh : ∀ b, (b = C ∨ b = D ∨ b ∈ wr) → s.heap.get? b = none := by
    rintro b (rfl | rfl | hb)
    · exact fC
    · exact fD
    · exact W.new b hb
  have hxk : (compEnvC scope cl C env).kindOf x = some .local := lookup_relabel_local hx
  have hzk : (compEnvC scope cl C env).kindOf z = some .local := lookup_relabel_local hy
  have hfk : ((compEnvC scope cl C env).scope.kind == .class || ((compEnvC scope cl C env).scope.kind == .module && (compEnvC scope cl C env).locals != (compEnvC scope cl C env).globals)) = false := by rw [show (compEnvC scope cl C env).scope.kind = .function from hkind]; rfl
  have inh : ∀ b, h.get? b ≠ none → V b ∧ ¬ (b = C ∨ b = D ∨ b ∈ wr) := fun b e => ⟨y.vis b (.inl e), fun q => e (Ext.back y.ext (xfresh b q))⟩
  have cut := fun (s' : Shared) (l : Lt κ.T (fun b => b = C ∨ b = D ∨ b ∈ wr) s₁ s') hp tk => cut_at (y.ext.trans l02'.ext) inh (fun b e => y.vis b (.inr (Ext.back l02'.ext e))) (fun b q => y.vis b (.inr (xfresh b q))) l hp tk ok₁
  have kcut : ∀ h', Kv (fun a => V a ∧ a ≠ D) h' (cutH (fun a => V a ∧ a ≠ D) h') := fun h' b o vb eb _ => by rw [cutH_yes vb]; exact eb
  have hCf : C ∉ fp := nfp _ (by rw [hC]; omega)
  have cnd : ∀ {m : Str → Option Value} {h' : Heap} {o : Obj}, h'.Ns C m → h'.get? C = some o → Held o → False := fun hn e q => by
    refine Classical.byContradiction fun nay => ?_
    obtain ⟨o', es, ep, e', hd, _⟩ := hn
    refine nay ?_
    clear nay
    rw [e] at e'; cases e'; exact q.ne hd rfl
  have setx : ∀ {w : Str} {pw : Pos} {G : (Str → Option Value) → Prop} (hk : (compEnvC scope cl C env).kindOf w = some .local) v s' (Q : Unit → Shared → Prop) (E : Value → Shared → Prop), (∃ m', s'.heap.Ns C m' ∧ G m') →
      (∀ h' tk', s'.toks ≤ tk' → (∃ m' m, G m ∧ h'.Ns C m' ∧ m' = fun y => if y = w then some v else m y) → ExtB κ.T (fun b => b = C) s'.heap h' → Calm s'.heap h' → Q () { s' with heap := h', toks := tk' }) → wpAny κ.M A (assign (.Name w pw) (compEnvC scope cl C env) v) Q E s' := fun hk v s' Q E ⟨m', hn, hg⟩ k =>
    wpAny_assign_Name (wpAny_storeName_local hk hn (fun h₂ hn₂ hs₂ => k h₂ _ (Nat.le_succ _) ⟨_, m', hg, hn₂, rfl⟩ (ExtB.sameBut hs₂ rfl) (calm_ns hn hs₂)) hfk)
  have loop : codeAny κ.M A (.compLoop (.ListComp elt [⟨.Name x px, iter, [], 0⟩, ⟨.Name z pz, iter2, [], 0⟩] scope pos) 0 (.ref I) (.ref D) (compEnvC scope cl C env)) (compPost κ.M A E use Q (.ref D) C) s₁ := by
    refine comp_loopG (V := V) (ds := ds) (g := fun d => (es d).map (f d)) (ys0 := #[]) (X := fun b => b = C) (J := fun h' => ∃ m', h'.Ns C m') (K := fun v h' => ∃ m', h'.Ns C m' ∧ m' x = some v) (turns0 (hs2 C)) W.w W.solid W.noq (fun i v hi p => ?_) tk₁ (fun b e => e ▸ hDC.symm) (nfp _ (Nat.le_refl _)) hst₁ hacc ⟨_, hns₁⟩ (fun b e => e ▸ hCf)
      (fun b h' o e ⟨m', hn⟩ eo q => by subst e; exact cnd hn eo q) (fun h' h'' ⟨m', hn⟩ e => ⟨m', ns_extB e (by rintro (q | q); exact hDC q.symm; exact hCf (W.w.sub _ q)) hn⟩) (fun v h' zz => by obtain ⟨m', hn, _⟩ := zz; exact ⟨m', hn⟩) ?_ ?_ ?_
    · refine Classical.byContradiction fun nay => ?_
      obtain ⟨d, hd, dv⟩ := W.item i v hi p
      refine nay ?_
      clear nay
      have q : Dn (fun a => V a ∧ a ≠ D) s₂.heap v d := dv.at fun a va e' => ⟨va, fun q => e' (q ▸ freshD)⟩
      exact ⟨d, hd, q.kv (Ext.kv l2.ext)⟩
    · intro v s' Q' E' ⟨m', hn⟩ k
      exact setx (G := fun _ => True) hxk v s' Q' E' ⟨m', hn, trivial⟩ fun h' tk' ht zz => by obtain ⟨m2, m, _, hn2, e⟩ := zz; exact k h' tk' ht ⟨m2, hn2, by rw [e]; simp⟩
    · intro i v d s' ys Z hd l tk' ⟨m', hn, hv⟩ hacc' hsz dv hZ E2
      obtain ⟨y', x'⟩ := cut s' l ⟨_, hacc'⟩ tk'
      have hnc : (cutH (fun a => V a ∧ a ≠ D) s'.heap).Ns C m' := hn.at' fun o e => (cutH_yes (h := s'.heap) ⟨vC, hDC.symm⟩).trans e
      have Fx := F.comp x' hkind hcl hx hnc hv
      have S2 := hsrc2 C i d _ x' hd (Fd.nest H x' hol h0 hz0 ((dv.kv (kcut _)).at fun _ _ _ => trivial) Fx)
      refine S2.go rm y' fun I2 wr2 P2 St2 s₄ l₄ y₄ W2 => ?_
      have fm : ∀ l : List Da, l.flatMap (fun e => [f d e]) = l.map (f d) := fun l => by
        induction l with
        | nil => rfl
        | cons a r ih => rw [List.flatMap_cons, ih]; rfl
      have hn₄ := ns_ext l₄.ext hn
      have hacc₄ := (Ext.kv (V := Tr) l₄.ext).plain trivial hacc'
      have f2 : ∀ b ∈ wr2, s'.heap.get? b = none := W2.new
      have hC4 : ∃ o, s₄.heap.get? C = some o := by obtain ⟨o, _, _, e, _⟩ := hn₄; exact ⟨o, e⟩
      have hCs : ∃ o, s'.heap.get? C = some o := by obtain ⟨o, _, _, e, _⟩ := hn; exact ⟨o, e⟩
      have hDs : ∃ o, s'.heap.get? D = some o := by obtain ⟨_, e⟩ := hacc'; exact ⟨_, e⟩
      have hCw : C ∉ wr2 := fun q => by obtain ⟨o, e⟩ := hCs; rw [f2 _ q] at e; cases e
      have hDw : D ∉ wr2 := fun q => by obtain ⟨o, e⟩ := hDs; rw [f2 _ q] at e; cases e
      have loop2 : codeAny κ.M A (.compLoop (.ListComp elt [⟨.Name x px, iter, [], 0⟩, ⟨.Name z pz, iter2, [], 0⟩] scope pos) 1 (.ref I2) (.ref D) (compEnvC scope cl C env)) (fun r s₅ => r = .ok .next ∧ Z s₅) s₄ := by
        refine comp_loopG (V := V) (ds := es d) (g := fun e => [f d e]) (ys0 := ys) (X := fun b => b = C) (J := fun h' => ∃ m', h'.Ns C m' ∧ m' x = some v) (K := fun u h' => ∃ m', h'.Ns C m' ∧ m' x = some v ∧ m' z = some u) turns1 W2.w W2.solid W2.noq (fun j u hj p => ?_) y₄.tk (fun b e => e ▸ hDC.symm) hDw W2.st hacc₄ ⟨_, hn₄, hv⟩ (fun b e => e ▸ hCw)
          (fun b h' o e ⟨m', hn, _⟩ eo q => by subst e; exact cnd hn eo q) (fun h' h'' ⟨m', hn, q⟩ e => ⟨m', ns_extB e (by rintro (q | q); exact hDC q.symm; exact hCw q) hn, q⟩) (fun v h' zz => by obtain ⟨m', hn, q, _⟩ := zz; exact ⟨m', hn, q⟩) ?_ ?_ ?_
        · refine Classical.byContradiction fun nay => ?_
          obtain ⟨e, he, de⟩ := W2.item j u hj p
          refine nay ?_
          clear nay
          exact ⟨e, he, de⟩
        · intro u s' Q' E' ⟨m', hn, hq⟩ k
          exact setx (G := fun m => m x = some v) hzk u s' Q' E' ⟨m', hn, hq⟩ fun h' tk' ht zz => by obtain ⟨m2, m, hm, hn2, e⟩ := zz; exact k h' tk' ht ⟨m2, hn2, by rw [e]; simp [hxz, hm], by rw [e]; simp⟩
        · intro j u e s5 ys5 Z5 he l5 tk5 ⟨m5, hn5, hv5, hu5⟩ hacc5 hsz5 du hZ5 E5
          have cut2 := fun (s6 : Shared) (l6 : Lt κ.T (fun b => b = C ∨ b = D ∨ b ∈ wr2) s₄ s6) hp tk => cut_at (κ := κ) (h := h) (V := V) (x'.trans ((cutH_ext).trans l₄.ext)) (fun b e => ⟨(inh b e).1, by
              rintro (q | q | q)
              · exact (inh b e).2 (.inl q)
              · exact (inh b e).2 (.inr (.inl q))
              · exact e (Ext.back (x'.trans cutH_ext) (f2 b q))⟩) (fun b e => (y₄.vis b (.inr e)).1) (fun b q => by
              rcases q with q | q | q
              · exact q ▸ vC
              · exact q ▸ vD
              · exact (y'.vis b (.inr (f2 b q))).1) l6 hp tk y₄.ok
          obtain ⟨y5, x5⟩ := cut2 s5 l5 ⟨_, hacc5⟩ tk5
          have dv5 : Dn (fun a => V a ∧ a ≠ D) s5.heap v d := dv.kv fun b o vb eb hd' => ExtB.get_data l5.ext (by
            rintro (q | q | q)
            · exact cnd hn (q ▸ eb) hd'
            · exact vb.2 q
            · rw [f2 b q] at eb; cases eb) (Ext.get_data l₄.ext eb fun vs' q' => hd'.ne q' rfl) fun vs' q' => hd'.ne q' rfl
          have hn5c : (cutH (fun a => V a ∧ a ≠ D) s5.heap).Ns C m5 := hn5.at' fun o e => (cutH_yes (h := s5.heap) ⟨vC, hDC.symm⟩).trans e
          have Fx5 := F.comp2 x5 hkind hcl hx hy hn5c hv5 hu5
          refine (helt C i j d e _ x5 hd he (Fd.nest2 H x5 hol h0 hxz ((dv5.kv (kcut _)).at fun _ _ _ => trivial) ((du.kv (kcut _)).at fun _ _ _ => trivial) Fx5)).go rm y5 fun r s6 pr l6 y6 => ?_
          have hacc6 := (Ext.kv (V := Tr) l6.ext).plain trivial hacc5
          have hys : ys5.size ≤ sizeLine := by
            have e1 : ds.flatMap (fun d => (es d).map (f d)) = (ds.take i).flatMap (fun d => (es d).map (f d)) ++ ((es d).map (f d) ++ (ds.drop (i + 1)).flatMap fun d => (es d).map (f d)) := by
              obtain ⟨hi, hdi⟩ := List.getElem?_eq_some_iff.mp hd
              have e2 : ds = ds.take i ++ ds[i] :: ds.drop (i + 1) := by rw [← List.drop_eq_getElem_cons hi, List.take_append_drop]
              rw [hdi] at e2
              conv => lhs; rw [e2]
              rw [List.flatMap_append, List.flatMap_cons]
            have e3 := congrArg List.length e1
            rw [List.length_append, List.length_append, List.length_map] at e3
            have e4 : (((es d).take j).flatMap fun e => [f d e]).length ≤ (es d).length := by rw [fm, List.length_map, List.length_take]; exact Nat.min_le_right _ _
            simp only [List.size_toArray, List.length_nil] at hsz
            omega
          refine wpAny_list_append_plain (hsz := hys) hacc6 fun h7 hl7 hs7 => ?_
          refine hZ5 ⟨h7, _, _, _, _⟩ #[r] (l6.toB.trans (.of_ext (ExtB.sameBut hs7 (.inr rfl)) (Calm.but (fun b => b = D) (fun b o hb e => hs7.extBut b o hb e) fun b o vs hb e hd => by
              obtain ⟨q, eD⟩ := hacc6
              rw [hb, eD] at e; cases e; cases hd))) y6.tk ⟨m5, (ns_ext l6.ext hn5).sameBut hs7 hDC.symm, hv5⟩ (by simpa using hl7) ?_
          exact .cons (pr.kv fun b o vb eb _ => hs7.extBut b o vb.2 eb) .nil
        · intro s' us l' ⟨m2, hn2, _⟩ hl hd' tk2
          refine ⟨rfl, hZ s' us ?_ tk2 ⟨m2, hn2⟩ hl (by rw [fm] at hd'; exact hd')⟩
          refine ⟨fun b o hb e => ?_, fun g => l'.gens (l₄.gens g), l'.os.trans l₄.os, fun g => l'.ok (l₄.ok g), fun g => ⟨(l'.same g).1.trans (l₄.same g).1, (l'.same g).2.trans (l₄.same g).2⟩⟩
          have nw : b ∉ wr2 := fun q => by rw [f2 b q] at e; cases e
          exact (((l₄.toB (X := fun c => c ≠ b)).ext).trans (l'.ext.mono (Y := fun c => c ≠ b) fun c q hc => by
            rw [hc] at q
            rcases q with q | q | q
            · exact hb (.inl q)
            · exact hb (.inr q)
            · exact nw q)) b o (fun q => q rfl) e
      exact compStart1 loop2 (W2.w.self 0 _ _ _ W2.st loop2)
    · intro s' ys l ⟨m', hn⟩ hl hd tk'
      have ls : Lt κ.T NoX s s' := ⟨ExtB.fresh l02'.ext l.ext xfresh, fun g => l.gens (l02'.gens g), l.os.trans l02'.os, fun g => l.ok (l02'.ok g), fun g => ⟨(l.same g).1.trans (l02'.same g).1, (l.same g).2.trans (l02'.same g).2⟩⟩
      exact hend _ _ s' (.list vD (by simpa using hl) (hd.at fun a va _ => va.1)) ls fC ⟨m', hn⟩ hDC.symm ⟨y.ext.trans ls.ext, tk', ls.ok y.ok, fun b e => y.vis b (e.imp id fun q => Ext.back ls.ext q)⟩
  exact codeAny_compStart_list loop (W.w.self 0 _ _ _ hst₁ loop)
end Mine
end
section
open PySem PySem.W PySem.W.X PyProof.Rows PySem.Calls
set_option Elab.async false
set_option maxRecDepth 100000
set_option maxHeartbeats 1000000
namespace Mine
variable {κ : Cx} {h : Heap} {n : Nat}
theorem beq_one {x : Str} (c k : Nat) (e : x = tx [k]) : (tx [c] == x) = decide (c = k) := by
  rw [e, tx_beq]
  by_cases h : c = k
  · subst h; simp
  · simp [h]
/-- parts laid one behind the other, z between -/
noncomputable def joinL (z : List Nat) : List (List Nat) → List Nat
  | [] => []
  | [a] => a
  | a :: b :: r => a ++ (z ++ joinL z (b :: r))
theorem join_tx (z : List Nat) : ∀ ls : List (List Nat), Txt.join (tx z) (ls.map tx) = tx (joinL z ls) := by
  intro ls
  show Builtin.Str.glued (tx z) (ls.map tx) = _
  rw [StrLaws.glued_eq_join]
  induction ls with
  | nil => rfl
  | cons a r ih =>
    cases r with
    | nil => rfl
    | cons b r =>
      show tx a ++ tx z ++ Str.join (tx z) ((b :: r).map tx) = tx (a ++ (z ++ joinL z (b :: r)))
      rw [ih, tx_add, tx_add, List.append_assoc]
theorem joinL_nil (ls : List (List Nat)) : joinL [] ls = ls.flatten := by
  induction ls with
  | nil => rfl
  | cons a r ih =>
    cases r with
    | nil => simp [joinL]
    | cons b r =>
      show a ++ ([] ++ joinL [] (b :: r)) = _
      rw [ih]; simp
theorem joinOk_tx {z : List Nat} {ls : List (List Nat)} (h : (ls.map List.length).sum + ls.length * z.length ≤ sizeLine) : JoinOk (tx z) (ls.map tx) = true := by
  refine joinOk_of ?_
  rw [List.map_map, List.length_map, tx_length]
  have e : ((fun x => Str.length x) ∘ tx) = List.length := funext fun l => tx_length l
  have hz : sizeLine = 16777216 := rfl
  rw [← hz]
  simpa [e] using h
theorem nopy {a b : Int} (hb : b.natAbs < 2 ^ 30) : Builtin.divisionGoesByPylong a b = false := by
  unfold Builtin.divisionGoesByPylong
  have h1 : (if (b == 0) = true then 0 else b.natAbs.log2 / 30 + 1) ≤ 1 := by
    split
    · exact Nat.zero_le _
    · by_cases h0 : b.natAbs = 0
      · rw [h0]; decide
      · have := (Nat.log2_lt h0).mpr hb
        rw [Nat.div_eq_of_lt this]
        exact Nat.le_refl _
  simp only [Bool.and_eq_false_iff, decide_eq_false_iff_not]
  left
  omega
theorem ev_str' {env : Env} {x : Str} {l : List Nat} {k : Nat} {pos : Pos} (e : x = tx l) : Ev κ n env h (.Constant (.str x) k pos) (Is (.str (tx l))) := e ▸ ev_str
theorem fmod_lo (a : Int) {b : Int} (hb : 0 < b) : 0 ≤ a.fmod b := Int.fmod_nonneg_of_pos a hb
theorem fmod_hi (a : Int) {b : Int} (hb : 0 < b) : a.fmod b < b := Int.fmod_lt_of_pos a hb
/-- closures of one name -/
theorem clB_one {env : Env} {x : Str} {a : Addr} (h1 : env.cells.lookup x = some a) (h2 : env.kindOf x ≠ some .local) : clB env [(x, a)] := fun y b e => by
  rw [List.lookup_cons] at e
  split at e
  · rename_i q
    cases e
    rw [show y = x by simpa using q]
    exact ⟨h1, h2⟩
  · cases e
theorem clB_cons {env : Env} {x : Str} {a : Addr} {cl : List (Str × Addr)} (h1 : env.cells.lookup x = some a) (h2 : env.kindOf x ≠ some .local) (c : clB env cl) : clB env ((x, a) :: cl) := fun y b e => by
  rw [List.lookup_cons] at e
  split at e
  · rename_i q
    cases e
    rw [show y = x by simpa using q]
    exact ⟨h1, h2⟩
  · exact c y b e
/-! ## _law_word -/
noncomputable def signsL (c : Int) : List (List Nat) := [[], [34], [39], [34, 34], [32], [97], [34], [((c.fdiv 512).fmod 1114112).toNat]]
noncomputable def signL (c : Int) (p : Nat) : List Nat := (signsL c).getD ((c.fdiv ((8 : Int) ^ p)).fmod 8).toNat []
noncomputable def wordL (c : Int) : List Nat := ((List.range 3).map (signL c)).flatten
theorem signsL_le (c : Int) : ∀ x ∈ signsL c, x.length ≤ 2 := fun x hx => by
  unfold signsL at hx
  simp only [List.mem_cons, List.not_mem_nil, or_false] at hx
  rcases hx with rfl | rfl | rfl | rfl | rfl | rfl | rfl | rfl <;> simp
theorem signL_at (c : Int) (p : Nat) : (signsL c)[((c.fdiv ((8 : Int) ^ p)).fmod 8).toNat]? = some (signL c p) := by
  have hm0 := fmod_lo (c.fdiv ((8 : Int) ^ p)) (b := 8) (by decide)
  have hm1 := fmod_hi (c.fdiv ((8 : Int) ^ p)) (b := 8) (by decide)
  have hlt : ((c.fdiv ((8 : Int) ^ p)).fmod 8).toNat < (signsL c).length := by show _ < 8; omega
  unfold signL
  rw [List.getD_eq_getElem?_getD, List.getElem?_eq_getElem hlt]; rfl
theorem signL_le (c : Int) (p : Nat) : (signL c p).length ≤ 2 := signsL_le c _ (List.mem_of_getElem? (signL_at c p))
theorem wordL_le (c : Int) : (wordL c).length ≤ 6 := by
  have a := signL_le c 0
  have b := signL_le c 1
  have d := signL_le c 2
  show (([signL c 0, signL c 1, signL c 2] : List (List Nat)).flatten).length ≤ 6
  simp only [List.flatten_cons, List.flatten_nil, List.length_append, List.length_nil]
  omega
theorem litA : (("a" : Str)) = tx [97] := by decide +kernel
theorem litMarks : (("\"\"" : Str)) = tx [34, 34] := by decide +kernel
theorem word_ok {f : Addr} {pm cd doc : Value} {c : Int} (b : Base κ h) (fa : FnAt h f (fAt 4 pm cd doc)) (bc : Blt κ "chr" (.builtin "chr")) (br : Blt κ "range" (.type "range")) :
    Fun κ (n + 1) h (.ref f) (Iss [.int c]) (Is (.str (tx (wordL c)))) := by
  have hs : sizeLine = 16777216 := rfl
  refine fun_data (xs := ["cell"]) (body := (dAt 4).body) b fa rfl rfl rfl rfl rfl rfl rfl ?_ nd1 ?_ fun V s₀ y => ?_
  · intro vs hv
    obtain ⟨v, rfl⟩ := List.length_eq_one_iff.mp hv
    rfl
  · intro x hx L
    simp only [List.mem_cons, List.not_mem_nil, or_false] at hx
    subst hx
    rfl
  have hb : (0 : Int) < 1114112 := by decide
  refine ex_assign' (d := .list ((signsL c).map fun x => .str (tx x))) (fun h' k F => ?_) ?_
  · exact ev_list (evl_is (ev_str' litNo) (evl_is (ev_str' litMark) (evl_is (ev_str' litQuote) (evl_is (ev_str' litMarks) (evl_is (ev_str' litBlank) (evl_is (ev_str' litA) (evl_is (ev_str' litMark) (evl_is
        (ev_call_b (F.blt bc) (evl_one (ev_mod_int (ev_div_int (ev_loc F rfl) ev_int (by decide) (nopy (by decide))) ev_int (by decide)) Is.per) (fun_chr (fmod_lo _ hb) (by have := fmod_hi (c.fdiv 512) hb; omega))) evl_is_nil)))))))) (show 8 ≤ sizeLine by decide)
  refine ex_ret' (fun h' k F => ?_) fun v s' p l => ret_ok p l
  have e1 : tx (wordL c) = Txt.join (tx []) (((List.range 3).map (signL c)).map tx) := by rw [join_tx, joinL_nil]; rfl
  rw [e1]
  refine ev_join (ev_str' litNo) ?_ (joinOk_tx ?_)
  · have e2 : ((((List.range 3).map (signL c)).map tx).map Da.str) = (upto 3).map (fun d => match d with | .int p => .str (tx (signL c p.toNat)) | d => d) := by
      simp [upto, List.map_map, Function.comp_def]
    rw [e2]
    refine evd_of F (core_map (src_range (by decide) (ev_call_t (F.blt br) (evl_one ev_int Is.per) fun_range)) (by decide) rfl (clB_cons rfl (by exact fun z => by cases z) (clB_one rfl (by exact fun z => by cases z))) fun C i d h' k' ed F' => ?_)
    have hi : i < 3 := by
      have := (List.getElem?_eq_some_iff.mp ed).1
      rwa [upto_length] at this
    rw [upto_get hi] at ed
    cases ed
    have hp : ((8 : Int) ^ ((i : Int)).toNat).natAbs < 2 ^ 30 ∧ (8 : Int) ^ ((i : Int)).toNat ≠ 0 := by
      rcases i with _ | _ | _ | i
      · decide
      · decide
      · decide
      · omega
    have hm0 := fmod_lo (c.fdiv ((8 : Int) ^ ((i : Int)).toNat)) (b := 8) (by decide)
    have hm1 := fmod_hi (c.fdiv ((8 : Int) ^ ((i : Int)).toNat)) (b := 8) (by decide)
    refine ev_item (k := (c.fdiv ((8 : Int) ^ ((i : Int)).toNat)).fmod 8) (ev_loc F' rfl) (ev_mod_int (ev_div_int (ev_loc F' rfl) (ev_pow_int ev_int (ev_loc F' rfl) (by omega) (by omega) (by decide)) hp.2 (nopy hp.1)) ev_int (by decide)) hm0 (by omega) ?_
    rw [List.getElem?_map, signL_at]
    rfl
  · have a := signL_le c 0
    have b := signL_le c 1
    have d := signL_le c 2
    show (signL c 0).length + ((signL c 1).length + ((signL c 2).length + 0)) + 3 * 0 ≤ sizeLine
    omega
/-! ## _law_bare -/
noncomputable def safeL : List Nat := [97, 98, 99, 100, 101, 102, 103, 104, 105, 106, 107, 108, 109, 110, 111, 112, 113, 114, 115, 116, 117, 118, 119, 120, 121, 122, 65, 66, 67, 68, 69, 70, 71, 72, 73, 74, 75, 76, 77, 78, 79, 80, 81, 82, 83, 84, 85, 86, 87, 88, 89, 90, 48, 49, 50, 51, 52, 53, 54, 55, 56, 57, 95, 64, 37, 43, 61, 58, 44, 46, 47, 45]
theorem litSafe : (("abcdefghijklmnopqrstuvwxyzABCDEFGHIJKLMNOPQRSTUVWXYZ0123456789_@%+=:,./-" : Str)) = tx safeL := by decide +kernel
noncomputable def bareL (l : List Nat) : Bool := !l.isEmpty && l.all fun c => safeL.contains c
end Mine
end
section
open PySem PySem.W PySem.W.X PyProof.Rows PySem.Calls
set_option Elab.async false
set_option maxRecDepth 100000
set_option maxHeartbeats 1000000
namespace Mine
variable {κ : Cx} {h : Heap} {n : Nat} {env : Env}
theorem contains_tx (l : List Nat) (c : Nat) : Txt.contains (tx l) (tx [c]) = l.contains c := by
  rw [Bool.eq_iff_iff]
  show (!(Builtin.Str.occurrences (tx l) ⟨#[c]⟩ 0 (tx l).length 1).isEmpty) = true ↔ _
  rw [StrLaws.found_iff]
  constructor
  · rintro ⟨i, hi⟩
    have := (StrLaws.subAt_one (tx l) c i).mp hi
    simp only [List.contains_iff_mem]
    exact List.mem_of_getElem? (l := l) (i := i) (by simpa [tx] using this)
  · intro hc
    simp only [List.contains_iff_mem] at hc
    obtain ⟨i, hi⟩ := List.getElem?_of_mem hc
    exact ⟨i, (StrLaws.subAt_one (tx l) c i).mpr (by simpa [tx] using hi)⟩
theorem ev_ne_str {l r : Expr} {pos : Pos} {a b : Str} (h1 : Ev κ n env h l (Is (.str a))) (h2 : Ev κ n env h r (Is (.str b))) (hm : behindInMarks .NotEq r = false := by with_unfolding_all rfl) : Ev κ n env h (.Compare l [.NotEq] [r] pos) (Is (.bool (a != b))) :=
  ev_cmp h1 Is.per h2 (fun _ s _ _ _ _ x y => by cases x; cases y; exact ne_str ⟨.bool _, .refl s⟩) hm
theorem eqvAll_nil : ∀ l : List Da, PyData.eqvAll (Da.pys l) [] = l.isEmpty
  | [] => rfl
  | _ :: _ => rfl
noncomputable def okC (c : Nat) : Bool := decide (c < 1114112)
theorem strOk_tx (l : List Nat) : PyData.strOk (tx l) = l.all okC := by
  unfold PyData.strOk tx
  rw [List.all_toArray]
  rfl
noncomputable def onS (g : List Nat → Bool) : Da → Bool
  | .str x => g x.cps.toList
  | _ => false
theorem onS_tx (g : List Nat → Bool) (l : List Nat) : onS g (.str (tx l)) = g l := by
  show g (tx l).cps.toList = _
  simp [tx]
theorem chars_at {l : List Nat} {i : Nat} {d : Da} (e : (chars l)[i]? = some d) : ∃ c, l[i]? = some c ∧ d = .str (tx [c]) := by
  simp only [chars, List.getElem?_map, Option.map_eq_some_iff] at e
  obtain ⟨c, h1, h2⟩ := e
  exact ⟨c, h1, h2.symm⟩
theorem chars_filter (p : List Nat → Bool) : ∀ l : List Nat, ((chars l).filter (onS p)).isEmpty = l.all fun c => !p [c]
  | [] => rfl
  | a :: l => by
    have ih := chars_filter p l
    show (List.filter (onS p) (Da.str (tx [a]) :: chars l)).isEmpty = (!p [a] && l.all fun c => !p [c])
    rw [List.filter_cons, onS_tx, ← ih]
    cases p [a] <;> simp
/-! ## _law_bare -/
theorem bare_ok {f : Addr} {pm cd doc : Value} {l : List Nat} (b : Base κ h) (fa : FnAt h f (fAt 5 pm cd doc)) (hz : l.length ≤ sizeLine) (hl : l.all okC = true) :
    Fun κ (n + 2) h (.ref f) (Iss [.str (tx l)]) (Is (.bool (bareL l))) := by
  refine fun_data (n := n + 1) (xs := ["word"]) (body := (dAt 5).body) b fa rfl rfl rfl rfl rfl rfl rfl ?_ nd1 ?_ fun V s₀ y => ?_
  · intro vs hv
    obtain ⟨v, rfl⟩ := List.length_eq_one_iff.mp hv
    rfl
  · intro x hx L
    simp only [List.mem_cons, List.not_mem_nil, or_false] at hx
    subst hx
    rfl
  refine ex_assign' (fun h' k F => ev_str' litSafe) ?_
  refine ex_ret' (fun h' k F => ?_) fun v s' p l => ret_ok p l
  have e1 : bareL l = ((tx l != tx []) && PyData.eqv (Da.list (((chars l).filter (onS fun x => !safeL.contains (x.headD 0))).map id)).py (Da.list []).py) := by
    have a1 : (tx l != tx []) = !l.isEmpty := by rw [bne, tx_beq]; cases l <;> rfl
    have a2 : PyData.eqv (Da.list (((chars l).filter (onS fun x => !safeL.contains (x.headD 0))).map id)).py (Da.list []).py = l.all fun c => safeL.contains c := by
      rw [List.map_id]
      show PyData.eqvAll (Da.pys _) [] = _
      rw [eqvAll_nil, chars_filter]
      simp
    rw [a1, a2]; rfl
  rw [e1]
  refine ev_and (ev_ne_str (ev_loc F rfl) (ev_str' litNo)) fun _ => ?_
  have hsh : ∀ l' : List Da, (∀ d ∈ l', ∃ c, okC c = true ∧ d = .str (tx [c])) → Shs 0 l' := fun l' hd => by
    have := Shs.map (k := 0) (g := id) (l := l') fun d hm => by
      obtain ⟨c, hc, rfl⟩ := hd d hm
      exact .str (by rw [strOk_tx]; simp [hc])
    rwa [List.map_id] at this
  have sh : Sh 1 (.list (((chars l).filter (onS fun x => !safeL.contains (x.headD 0))).map id)) := .list (hsh _ fun d hm => by
    rw [List.map_id] at hm
    obtain ⟨c, hc, rfl⟩ := List.mem_map.mp (List.mem_filter.mp hm).1
    exact ⟨c, List.all_eq_true.mp hl c hc, rfl⟩)
  have sn : Sh 1 (.list []) := .list .nil
  refine ev_eq (evd_of F (core_comp (keep := onS fun x => !safeL.contains (x.headD 0)) (f := id) (src_str (ev_loc F rfl)) (by simp [chars]; omega) rfl (clB_one rfl (by exact fun z => by cases z)) (fun C i d h' k' ed F' => ?_) fun C i d h' k' ed F' _ => ev_loc F' rfl)) (ev_list evl_is_nil (by decide)) (sh.shaped (by decide)) (sn.shaped (by decide)) sh.pu sn.pu
  obtain ⟨c, _, rfl⟩ := chars_at ed
  refine evt_one (evb_notin (ev_loc F' rfl) (ev_loc F' rfl) ?_)
  rw [contains_tx, onS_tx]
  rfl
end Mine
end
section
open PySem PySem.W PySem.W.X PyProof.Rows PySem.Calls
set_option Elab.async false
set_option maxRecDepth 100000
set_option maxHeartbeats 1000000
namespace Mine
variable {κ : Cx} {h : Heap} {n : Nat} {env : Env}
theorem mulOk4 {k : Nat} (hk : k < 4) : MulOk (tx [34]) (k : Int) := by
  rcases k with _ | _ | _ | _ | k
  · exact ⟨by decide, fun h => absurd (by decide) h, fun h => absurd (by decide) h⟩
  · exact ⟨by decide, fun _ h => absurd h (by decide), fun _ h => absurd h (by decide)⟩
  · exact ⟨by decide, fun _ _ => by decide, fun _ _ => by decide⟩
  · exact ⟨by decide, fun _ _ => by decide, fun _ _ => by decide⟩
  · omega
theorem mul_marks (k : Nat) : Txt.mul (tx [34]) (k : Int) = tx (List.replicate k 34) := by
  have := PyProof.Rows.mul_one_list 34 (k : Int)
  rw [str_eq_tx (Txt.mul _ _)]
  show tx (Txt.mul ⟨#[34]⟩ (k : Int)).cps.toList = _
  rw [this]; simp
/-- the first part of a split -/
theorem split_head (l : List Nat) (c : Nat) : ∃ r, Txt.split (tx l) ⟨#[c]⟩ = tx (l.takeWhile (· != c)) :: r := by
  have free := StrLaws.split_free (tx l) c
  have join : (Str.join ⟨#[c]⟩ (Txt.split (tx l) ⟨#[c]⟩)) = tx l := StrLaws.join_split (tx l) ⟨#[c]⟩
  cases hp : Txt.split (tx l) ⟨#[c]⟩ with
  | nil =>
    have := PyProof.Rows.split_len (tx l) c
    rw [hp] at this
    have h0 : (0 : Int) ≤ cnt c (tx l).cps.toList := by rw [← count_cnt]; exact Int.natCast_nonneg _
    simp at this
    omega
  | cons p r =>
    have hpf : c ∉ p.cps.toList := free p (by rw [hp]; exact List.mem_cons_self)
    have key : ∀ t : List Nat, l = p.cps.toList ++ t → (t = [] ∨ ∃ t', t = c :: t') → l.takeWhile (· != c) = p.cps.toList := fun t e ht => by
      have hall : ∀ a ∈ p.cps.toList, (a != c) = true := fun a ha => by
        simp only [bne_iff_ne, ne_eq]
        exact fun q => hpf (q ▸ ha)
      rw [e, List.takeWhile_append_of_pos hall]
      rcases ht with rfl | ⟨t', rfl⟩ <;> simp
    refine ⟨r, ?_⟩
    congr 1
    rw [hp] at join
    cases r with
    | nil =>
      have e : l = p.cps.toList := by
        have := congrArg (fun x : Str => x.cps.toList) join
        simpa [Str.join, tx] using this.symm
      rw [key [] (by simpa using e) (.inl rfl)]; exact str_eq_tx p
    | cons q r =>
      have e : l = p.cps.toList ++ (c :: (Str.join ⟨#[c]⟩ (q :: r)).cps.toList) := by
        have e1 : Str.join ⟨#[c]⟩ (p :: q :: r) = p ++ ⟨#[c]⟩ ++ Str.join ⟨#[c]⟩ (q :: r) := rfl
        rw [e1, str_eq_tx p, str_eq_tx (Str.join _ _), show (⟨#[c]⟩ : Str) = tx [c] from rfl, tx_add, tx_add, tx_inj] at join
        have e2 : (⟨#[c]⟩ : Str) = tx [c] := rfl
        rw [e2]
        simpa using join.symm
      rw [key _ e (.inr ⟨_, rfl⟩)]; exact str_eq_tx p
/-- x.split(c)[0] -/
theorem ev_itemS {value slice : Expr} {pos : Pos} {xs : List Str} {x : Str} (a : Ev κ n env h value (StrL xs)) (b : Ev κ n env h slice (Is (.int 0))) (hd : xs[0]? = some x)
    (hs : ∀ o i, subscripted slice false o i = operate [o, i] (getItem o i) := by intro _ _; with_unfolding_all rfl) : Ev κ n env h (.Subscript value slice pos) (Is (.str x)) := by
  intro A s V rm y
  refine Subscript_ (a.go rm y fun o s1 po l1 y1 => b.go rm y1 fun i s2 pi l2 y2 => ?_)
  obtain ⟨D, l, rfl, hl, e⟩ := strL_per (κ := κ) _ _ _ _ l2.ext po
  cases pi
  obtain ⟨t, ht⟩ : ∃ t, (strValues l).toArray[(0 : Int).toNat]? = some (.str x t) := by
    subst e
    cases l with
    | nil => cases hd
    | cons p l => cases hd; exact ⟨p.2, rfl⟩
  exact tail_any hl.typeIs slot_list_getitem.lookup (wpAny_getItem_list hl (by decide) (by decide) ht ⟨.str _ _, l1.trans l2⟩) (hs _ _)
/-- an if whose other branch is taken to its end -/
theorem ex_else {V : Addr → Prop} {s₀ : Shared} {δ : Del} {Q : Flow → Shared → Prop} {rest : List Stmt} {c : Expr} {body : List Stmt} {orelse : List Stmt} {pos : Pos} (a : ∀ h', Ext κ.T h h' → Fd κ h' env δ → EvB κ n env h' c false) (k : Ex κ n h V s₀ env δ orelse (nx (fun _ => False) Q)) : Ex κ n h V s₀ env δ (.If c body orelse pos :: rest) Q := by
  intro A s rm F
  have ev := a _ F.ext F.fd
  refine wpAny_execs_cons (wpAny_If (ev.go rm F.at fun s1 l1 y1 => ?_))
  rw [if_neg (by decide)]
  refine wpAny_mono (k A s1 rm (F.on l1 y1.tk)) (fun fl s' q => ?_) fun _ _ f => f
  have e2 : ExtB κ.T (Loc env) s.heap s'.heap := (l1.toB (X := Loc env)).ext.trans q.2
  cases fl with
  | next => exact q.1.elim
  | cont => exact ⟨q.1, e2⟩
  | brk => exact ⟨q.1, e2⟩
  | ret v => exact ⟨q.1, e2⟩
/-! ## _law_part -/
noncomputable def scan : List Nat → Nat → List Nat → List Nat × Bool
  | [], _, acc => (acc, true)
  | c :: r, run, acc => if c = 34 then scan r (run + 1) acc else if run % 2 = 1 then (acc ++ List.replicate (run / 2) 34, false) else scan r 0 (acc ++ List.replicate (run / 2) 34 ++ [c])
noncomputable def segL (w : List Nat) : List Nat := w.takeWhile (· != 39)
noncomputable def partL (w : List Nat) : List Nat × Bool := if bareL w then (w, true) else
  ((scan (segL w ++ [39]) 0 [39]).1, (scan (segL w ++ [39]) 0 [39]).2 && !w.contains 39)
noncomputable def step1 (a : Nat × List Nat) (c : Nat) : Nat × List Nat := if c = 34 then (a.1 + 1, a.2) else (0, a.2 ++ List.replicate (a.1 / 2) 34 ++ [c])
noncomputable def st1 (all : List Nat) (i : Nat) : Nat × List Nat := (all.take i).foldl step1 (0, [39])
theorem st1_succ {all : List Nat} {i c : Nat} (e : all[i]? = some c) : st1 all (i + 1) = step1 (st1 all i) c := by
  unfold st1
  rw [List.take_add_one, e, List.foldl_append]; rfl
theorem st1_le (all : List Nat) : ∀ i, i ≤ all.length → (st1 all i).2.length + (st1 all i).1 ≤ i + 1
  | 0, _ => by simp [st1]
  | i + 1, hi => by
    have ih := st1_le all i (Nat.le_of_succ_le hi)
    have e : all[i]? = some all[i] := List.getElem?_eq_getElem hi
    rw [st1_succ e]
    unfold step1
    split
    · simp only []; omega
    · simp only [List.length_append, List.length_replicate, List.length_singleton]; omega
theorem part_ok {f : Addr} {pm cd doc : Value} {w : List Nat} (b : Base κ h) (fa : FnAt h f (fAt 6 pm cd doc)) (db : Df κ h 5 "_law_bare") (hz : w.length ≤ 6) (hl : w.all okC = true) :
    Fun κ (n + 3) h (.ref f) (Iss [.str (tx w)]) (Is (.tup [.str (tx (partL w).1), .bool (partL w).2])) := by
  have hs : sizeLine = 16777216 := rfl
  refine fun_data (n := n + 2) (xs := ["word"]) (body := (dAt 6).body) b fa rfl rfl rfl rfl rfl rfl rfl ?_ nd1 ?_ fun V s₀ y => ?_
  · intro vs hv
    obtain ⟨v, rfl⟩ := List.length_eq_one_iff.mp hv
    rfl
  · intro x hx L
    simp only [List.mem_cons, List.not_mem_nil, or_false] at hx
    subst hx
    rfl
  have bare : ∀ h', Ext κ.T h h' → Fd κ h' (callEnvC (fAt 6 pm cd doc) s₀.heap.objs.size f) [("word", .str (tx w))] → ∀ p1 p2 p3, EvB κ (n + 2) (callEnvC (fAt 6 pm cd doc) s₀.heap.objs.size f) h' (.Call (.Name "_law_bare" p1) [.Name "word" p2] [] p3) (bareL w) := fun h' k F p1 p2 p3 =>
    evb_of (ev_df F (db.ext k) (evl_d (ev_loc F rfl)) fun f2 p c d fb => bare_ok F.base fb (by omega) hl)
  cases hb : bareL w with
  | true =>
    refine ex_take (fun h' k F => hb ▸ bare h' k F _ _ _) ?_
    refine ex_ret' (fun h' k F => ev_tup (evl_is (ev_loc F rfl) (evl_is ev_bool evl_is_nil)) (show 2 ≤ sizeLine by decide)) fun v s' p l => ret_ok ?_ l
    simp only [partL, hb, if_true]; exact p
  | false =>
  have hpl : partL w = ((scan (segL w ++ [39]) 0 [39]).1, (scan (segL w ++ [39]) 0 [39]).2 && !w.contains 39) := by unfold partL; rw [hb]; rfl
  have hseg : (segL w).length ≤ 6 := Nat.le_trans ((List.takeWhile_prefix _).length_le) hz
  refine ex_skip (fun h' k F => hb ▸ bare h' k F _ _ _) ?_
  refine ex_assign' (fun h' k F => ev_str' litQuote) ?_
  refine ex_assign' (fun h' k F => ev_int) ?_
  generalize hall : segL w ++ [39] = all at hpl
  have hal : all.length ≤ 7 := by rw [← hall, List.length_append]; exact Nat.succ_le_succ hseg
  refine ex_for (ds := chars all) (δ' := [("told", .str (tx (scan all 0 [39]).1)), ("word", .str (tx (if (scan all 0 [39]).2 then w else [39])))]) (fun i => scan all 0 [39] = scan (all.drop i) (st1 all i).1 (st1 all i).2) (fun i => [("told", .str (tx (st1 all i).2)), ("run", .int ((st1 all i).1 : Nat)), ("word", .str (tx w))])
    (fun h' k F => src_str (l := all) ?_) ?_ ?_ rfl ⟨rfl, rfl, rfl, trivial⟩ ?_
  · obtain ⟨r, hr⟩ := split_head w 39
    have e : tx all = tx (segL w) ++ tx [39] := by rw [tx_add, hall]
    rw [e]
    refine ev_add_str (ev_itemS (ev_split (c := 39) (ev_loc F rfl) (ev_str' litQuote) (by rw [tx_length]; omega)) ev_int (by rw [hr]; rfl)) (ev_str' litQuote) ?_
    rw [tx_length, tx_length, List.length_singleton]; omega
  · intro i d hd J
    obtain ⟨c, hc, rfl⟩ := chars_at hd
    have hi : i < all.length := (List.getElem?_eq_some_iff.mp hc).1
    have hdr : all.drop i = c :: all.drop (i + 1) := by
      rw [List.drop_eq_getElem_cons hi]
      have : all[i] = c := by rw [List.getElem?_eq_getElem hi] at hc; exact Option.some.inj hc
      rw [this]
    have hle := st1_le all i (Nat.le_of_lt hi)
    have hsu := st1_succ hc
    rw [hdr] at J
    generalize st1 all i = a at J hle hsu ⊢
    obtain ⟨run, acc⟩ := a
    dsimp only at J hle hsu ⊢
    by_cases h34 : c = 34
    · subst h34
      have e1 : st1 all (i + 1) = (run + 1, acc) := by rw [hsu]; simp [step1]
      refine ex_if' (b := true) (δ' := [("told", .str (tx acc)), ("run", .int ((run + 1 : Nat) : Int)), ("word", .str (tx w))]) (fun h' k F => evb_eq_str (ev_loc F rfl) ev_str (by rw [beq_one _ _ litMark]; rfl)) ?_ ?_
      · rw [if_pos rfl]
        refine ex_assign' (fun h' k F => ev_add_int (ev_loc F rfl) ev_int) (ex_nil fun s F => F.weak ⟨rfl, rfl, rfl, trivial⟩)
      · refine ex_nil fun s F => ⟨?_, ?_⟩
        · show scan all 0 [39] = scan (all.drop (i + 1)) (st1 all (i + 1)).1 (st1 all (i + 1)).2
          rw [J, e1]; simp [scan]
        · show Fr κ h V s₀ _ [("told", .str (tx (st1 all (i + 1)).2)), ("run", .int ((st1 all (i + 1)).1 : Nat)), ("word", .str (tx w))] s
          rw [e1]; exact F
    · have hq : (tx [c] == ("\"" : Str)) = false := by rw [beq_one _ _ litMark]; simpa using h34
      have hdiv : (run : Int).fdiv 2 = ((run / 2 : Nat) : Int) := by rw [Int.fdiv_eq_ediv_of_nonneg _ (by decide)]; rfl
      have hmod : (run : Int).fmod 2 = ((run % 2 : Nat) : Int) := by rw [Int.fmod_eq_emod_of_nonneg _ (by decide)]; rfl
      have hk4 : run / 2 < 4 := by omega
      have told1 : ∀ {h' : Heap} {δ : Del} {p1 p2 p3 p4 p5 p6 p7 : Pos} {k1 k2 : Nat}, Fd κ h' (callEnvC (fAt 6 pm cd doc) s₀.heap.objs.size f) δ → δ.lookup ("told" : Str) = some (.str (tx acc)) → δ.lookup ("run" : Str) = some (.int (run : Int)) →
          Ev κ (n + 2) (callEnvC (fAt 6 pm cd doc) s₀.heap.objs.size f) h' (.BinOp (.Name "told" p1) .Add (.BinOp (.Constant (.str "\"") k1 p2) .Mult (.BinOp (.Name "run" p3) .FloorDiv (.Constant (.int 2) k2 p4) p5) p6) p7) (Is (.str (tx (acc ++ List.replicate (run / 2) 34)))) := fun F e1 e2 => by
        rw [← tx_add, ← mul_marks]
        refine ev_add_str (ev_loc F e1) (ev_mul_str (ev_str' litMark) (hdiv ▸ ev_div_int (ev_loc F e2) ev_int (by decide) (nopy (by decide))) (mulOk4 hk4)) ?_
        rw [mul_marks, tx_length, tx_length, List.length_replicate]; omega
      by_cases hodd : run % 2 = 1
      · refine ex_else (fun h' k F => evb_eq_str (ev_loc F rfl) ev_str hq) ?_
        · refine ex_assign' (fun h' k F => told1 F rfl rfl) ?_
          refine ex_take (fun h' k F => evb_eq_int (ev_mod_int (ev_loc F rfl) ev_int (by decide)) ev_int (by rw [hmod, hodd]; rfl)) ?_
          refine ex_ret' (fun h' k F => ev_tup (evl_is (ev_loc F rfl) (evl_is ev_bool evl_is_nil)) (show 2 ≤ sizeLine by decide)) fun v s' p l => ret_ok ?_ l
          rw [hpl, J]
          simp only [scan, if_neg h34, if_pos hodd, Bool.false_and]
          exact p
      · have e1 : st1 all (i + 1) = (0, acc ++ List.replicate (run / 2) 34 ++ [c]) := by rw [hsu]; simp [step1, h34]
        refine ex_if' (b := false) (δ' := [("told", .str (tx (acc ++ List.replicate (run / 2) 34 ++ [c]))), ("run", .int ((0 : Nat) : Int)), ("word", .str (tx w))]) (fun h' k F => evb_eq_str (ev_loc F rfl) ev_str hq) ?_ ?_
        · rw [if_neg (by decide)]
          refine ex_assign' (fun h' k F => told1 F rfl rfl) ?_
          refine ex_skip (fun h' k F => evb_eq_int (ev_mod_int (ev_loc F rfl) ev_int (by decide)) ev_int (by rw [hmod, show run % 2 = 0 from (Nat.mod_two_eq_zero_or_one run).resolve_right ‹_›]; rfl)) ?_
          refine ex_assign' (d := .str (tx (acc ++ List.replicate (run / 2) 34 ++ [c]))) (fun h' k F => ?_) ?_
          · rw [← tx_add]
            refine ev_add_str (ev_loc F rfl) (ev_loc F rfl) ?_
            rw [tx_length, tx_length, List.length_append, List.length_replicate, List.length_singleton]; omega
          refine ex_assign' (fun h' k F => ev_int) (ex_nil fun s F => F.weak ⟨rfl, rfl, rfl, trivial⟩)
        · refine ex_nil fun s F => ⟨?_, ?_⟩
          · show scan all 0 [39] = scan (all.drop (i + 1)) (st1 all (i + 1)).1 (st1 all (i + 1)).2
            rw [J, e1]; simp [scan, h34, hodd]
          · show Fr κ h V s₀ _ [("told", .str (tx (st1 all (i + 1)).2)), ("run", .int ((st1 all (i + 1)).1 : Nat)), ("word", .str (tx w))] s
            rw [e1]; exact F
  · intro J
    rw [show (chars all).length = all.length by simp [chars], List.drop_length] at J
    rw [show (chars all).length = all.length by simp [chars], J]
    exact ⟨rfl, rfl, trivial⟩
  · refine ex_ret' (fun h' k F => ev_tup (evl_is (ev_loc F rfl) (evl_is (ev_notin (ev_str' litQuote) (ev_loc F rfl)) evl_is_nil)) (show 2 ≤ sizeLine by decide)) fun v s' p l => ret_ok ?_ l
    rw [hpl]
    rw [contains_tx] at p
    cases hb2 : (scan all 0 [39]).2 with
    | true => rw [hb2, if_pos rfl] at p; simpa using p
    | false => rw [hb2] at p; exact p
end Mine
end
section
open PySem PySem.W PySem.W.X PyProof.Rows PySem.Calls
set_option Elab.async false
set_option maxRecDepth 100000
set_option maxHeartbeats 1000000
namespace Mine
variable {κ : Cx} {n m : Nat} {env : Env} {h : Heap} {δ : Del} {t : Tx} {lo : Prop}
/-! ## lambdas, called with data -/
noncomputable def LamN (κ : Cx) (m : Nat) (G : List Da → Da → Prop) : Pr := fun _ u h => ∃ fl, u = .ref fl ∧ IsFn h fl ∧ ∀ as r, G as r → Fun κ m h (.ref fl) (Iss as) (Is r)
theorem LamN.per {G : List Da → Da → Prop} : Per κ (LamN κ m G) := fun _ _ _ _ e zz => by obtain ⟨fl, u, i, k⟩ := zz; exact ⟨fl, u, i.ext e, fun as r g => (k as r g).up e⟩
theorem ev_lamN {b : Tab} {lp : Pos} {params : Arguments} {e : Expr} {scope : Scope} {cl : List (Str × Addr)} {xs : List Str} {δc : Del} {G : List Da → Da → Prop} (F : Fd κ h env δ) (bm : Bm κ h) (hT : κ.T = t.tb lo) (hgd : t.Good) (hb : b ∈ t.tabs) (hq : ∀ p, b.q p = env.qual ++ "<lambda>")
    (hc : env.code = .ref b.c) (hg : env.globals = mainGlobals) (hclos : closureFor scope env = pure cl) (hdef : defaultsOf params env = ([], []))
    (hcl : ∀ x a, cl.lookup x = some a → env.cells.lookup x = some a ∧ env.kindOf x ≠ some .local ∧ (δc.lookup x).isSome = true) (hsub : Sub δc δ)
    (hlen : ∀ as r, G as r → as.length = xs.length)
    (hbind : ∀ ctv code pm doc vs, vs.length = xs.length → bindArgs (fnK "<lambda>" (env.qual ++ "<lambda>") params (.expr e) scope cl ctv code pm doc) ⟨vs, []⟩ = pure (xs.zip vs))
    (hnd : ∀ vs : List Value, vs.length = xs.length → ∀ y, (xs.zip vs).reverse.lookup y = (xs.zip vs).lookup y)
    (hbody : ∀ C f ctv code pm doc h'' as r, G as r → Ext κ.T h h'' → Fd κ h'' (callEnvK (fnK "<lambda>" (env.qual ++ "<lambda>") params (.expr e) scope cl ctv code pm doc) C f) (xs.zip as ++ δc) → Ev κ m (callEnvK (fnK "<lambda>" (env.qual ++ "<lambda>") params (.expr e) scope cl ctv code pm doc) C f) h'' e (Is r))
    (hco : scope.isCoroutine = false := by rfl) (hge : scope.isGenerator = false := by rfl) (hkk : scope.kind = .function := by rfl) (hnc : scope.names.all (fun x => !(x.2 == .cell)) = true := by rfl)
    (hloc : xs.all (fun x => scope.names.lookup x == some .local) = true := by rfl) (hfr : δc.all (fun x => !(scope.names.lookup x.1 == some .local)) = true := by rfl) :
    Ev κ n env h (.Lambda params e scope lp) (LamN κ (m + 1) G) := by
  refine ev_lambda F.base bm hg hclos hdef (fun A s1 ok => ?_) fun V h' f' ctv code pm doc k ho' cok => ⟨f', rfl, ⟨_, _, ho', rfl⟩, fun as r g => ?_⟩
  · rw [← hq lp]
    exact coder_law hT hgd hb hc (fun p _ _ => by rw [hq, hq]) (by rw [hT] at ok; exact ok)
  · exact fun_lam (xs := xs) (δc := δc) F k ho' cok hcl hsub (fun vs hvs => hbind ctv code pm doc vs (by rw [hvs, hlen as r g])) (fun vs hvs => hnd vs (by rw [hvs, hlen as r g])) (fun C h'' k2 F2 => hbody C f' ctv code pm doc h'' as r g (k.trans k2) F2) hco hge hkk hnc hloc hfr
/-! ## reduce of two arguments -/
structure RedTop (κ : Cx) (h : Heap) : Prop where
  red : ∃ f dt mi pm cd doc, κ.mg "reduce" = some (.ref f) ∧ FnAt h f (fR (.ref dt) pm cd doc) ∧ h.IsTuple dt #[.ref mi] ∧ κ.mg "_initial_missing" = some (.ref mi)
  iter : Blt κ "iter" (.builtin "iter")
  next : Blt κ "next" (.builtin "next")
theorem tup_ext {T : Tb} {h h' : Heap} {a : Addr} {vs : Array Value} (x : h.IsTuple a vs) (k : Ext T h h') : h'.IsTuple a vs := by obtain ⟨o, e, c, q, d⟩ := x; exact ⟨o, Ext.get_data k e (by intro vs z; rw [d] at z; cases z), c, q, d⟩
theorem RedTop.ext {h' : Heap} (x : RedTop κ h) (k : Ext κ.T h h') : RedTop κ h' := ⟨by obtain ⟨f, dt, mi, p, c, d, a, b, e, g⟩ := x.red; exact ⟨f, dt, mi, p, c, d, a, b.ext k, tup_ext e k, g⟩, x.iter, x.next⟩
noncomputable def FoldG (ds : List Da) (fold : Nat → Da) (as : List Da) (r : Da) : Prop := ∃ i d, 1 ≤ i ∧ ds[i]? = some d ∧ as = [fold i, d] ∧ r = fold (i + 1)
/-- no addresses -/
noncomputable def Flat (d : Da) : Prop := ∀ V W h v, Dn V h v d → Dn W h v d
theorem Flat.str {x : Str} : Flat (.str x) := fun _ _ _ _ p => by cases p; exact .str _ _
theorem Flat.int {i : Int} : Flat (.int i) := fun _ _ _ _ p => by cases p; exact .int _ _
theorem ev_reduce {p pos : Pos} {lam seq : Expr} {ds : List Da} {fold : Nat → Da} (F : Fd κ h env δ) (R : RedTop κ h) (a : Ev κ (n + 1) env h lam (LamN κ n (FoldG ds fold))) (b : Ev κ (n + 1) env h seq (Is (.list ds))) (h0 : ds[0]? = some (fold 1)) (flat : Flat (fold ds.length))
    (hk : env.kindOf "reduce" = some .globalImplicit := by rfl)
    (he : ∀ pos, backTo pos (starEach [lam, seq] env) = (false, eval lam env) :: backTo pos (starEach [seq] env) := by intro _; rfl) (he' : ∀ pos, backTo pos (starEach [seq] env) = (false, eval seq env) :: backTo pos (starEach [] env) := by intro _; rfl) :
    Ev κ (n + 1) env h (.Call (.Name "reduce" p) [lam, seq] [] pos) (Is (fold ds.length)) := by
  refine Classical.byContradiction fun nay => ?_
  obtain ⟨f, dt, mi, pm, cd, doc, gr, fr0, ht, gm⟩ := R.red
  obtain ⟨o, ho, hd⟩ := id fr0.at_
  refine nay ?_
  clear nay
  refine ev_call_f (F.glob gr hk) ho hd (evl_two a LamN.per b Is.per he he') ?_ he (by decide)
  rintro A s V vs rm y ⟨v, u, rfl, ⟨fl, rfl, hf, hl⟩, pu⟩
  have z := reduce2 (κ := κ) (n := n) (h := s.heap) (fa := fl) (ds := ds) (fold := fold) (F.base.ext y.ext) (fr0.ext y.ext) (tup_ext ht y.ext) gm R.iter R.next hf h0 (fun i d hi e => hl _ _ ⟨i, d, hi, e, rfl, rfl⟩) A s Tr [.ref fl, u] rm (.self y.tk y.ok) (.cons (.val _) (.cons (pu.at fun _ _ _ => trivial) .nil))
  exact wpAny_mono z (fun v s' q => ⟨flat _ _ _ _ q.1, q.2⟩) fun _ _ f => f
end Mine
end
section
open PySem PySem.W PySem.W.X PyProof.Rows PySem.Calls
set_option Elab.async false
set_option maxRecDepth 100000
set_option maxHeartbeats 1000000
namespace Mine
variable {κ : Cx} {n m : Nat} {env : Env} {h : Heap} {δ : Del}
/-! ## sorted of ints, by a key that is an int -/
noncomputable def KeyG (ns : List Int) (key : Int → Int) (as : List Da) (r : Da) : Prop := ∃ i ∈ ns, as = [.int i] ∧ r = .int (key i)
noncomputable def CmpG (ns : List Int) (cmp : Int → Int → Int) (as : List Da) (r : Da) : Prop := ∃ i ∈ ns, ∃ j ∈ ns, as = [.int i, .int j] ∧ r = .int (cmp i j)
theorem LamN.cmp {ns : List Int} {cmp : Int → Int → Int} {V : Addr → Prop} {u : Value} (a : LamN κ m (CmpG ns cmp) V u h) : LamP κ m ns cmp V u h :=
  by obtain ⟨fl, e, i, k⟩ := a; exact ⟨fl, e, i, fun x hx y hy => k _ _ ⟨x, hx, y, hy, rfl, rfl⟩⟩
theorem ev_neg {x : Expr} {pos : Pos} {a : Int} (h1 : Ev κ n env h x (Is (.int a))) : Ev κ n env h (.UnaryOp .USub x pos) (Is (.int (-a))) := fun A s V rm y =>
  wpAny_UnaryOp (h1.go rm y fun v s1 p l _ => by cases p; exact neg_int ⟨.int _ _, l.trans .toks⟩)
noncomputable def ltI (ns : List Int) (key : Int → Int) (i j : Nat) : Bool := decide (key (ns.getD i 0) < key (ns.getD j 0))
theorem ev_sortedI {e ke : Expr} {p kp pos : Pos} {ns : List Int} {key : Int → Int} (F : Fd κ h env δ) (bl : Blt κ "sorted" (.builtin "sorted")) (a : Ev κ (n + 4) env h e (Is (.list (nums ns)))) (kk : Ev κ (n + 4) env h ke (LamN κ n (KeyG ns key))) (h64 : ns.length < 64) (hok : okT ns.length (kas_sort ns.length) = true ∨ ns.length < 2) (hin : ∀ i ∈ sortP ns.length (ltI ns key), i < ns.length)
    (hk : env.kindOf "sorted" = some .globalImplicit := by rfl)
    (he : ∀ pos, backTo pos (starEach [e] env) = (false, eval e env) :: backTo pos (starEach [] env) := by intro _; rfl)
    (hp : ∀ pos, (backTo pos (starEach [e] env)).any (·.1) = false := by intro _; rfl)
    (hall : ∀ pos, (backToKw pos (keywordEach [⟨some "key", ke, kp⟩] env)).all (·.1.isSome) = true := by intro _; rfl)
    (hkw : ∀ pos, (backToKw pos (keywordEach [⟨some "key", ke, kp⟩] env)).any (·.1.isNone) = false := by intro _; rfl)
    (hnm : ∀ pos (v : Value), ((backToKw pos (keywordEach [⟨some "key", ke, kp⟩] env)).filterMap (·.1)).zip [v] = [(Str.ofString "key", v)] := by intro _ _; rfl)
    (hev : ∀ A Q E s, wpAny κ.M A (eval (.Name "sorted" p) env) (fun f s₁ => wpAny κ.M A (callWith pos f [] (backTo pos (starEach [e] env)) (backToKw pos (keywordEach [⟨some "key", ke, kp⟩] env))) Q E s₁) E s → wpAny κ.M A (eval (.Call (.Name "sorted" p) [e] [⟨some "key", ke, kp⟩] pos) env) Q E s := by intro _ _ _ _ z; exact wpAny_bind z) :
    Ev κ (n + 4) env h (.Call (.Name "sorted" p) [e] [⟨some "key", ke, kp⟩] pos) (Is (.list (nums ((sortP ns.length (ltI ns key)).map fun i => ns.getD i 0)))) := by
  intro A s V rm y
  refine hev _ _ _ _ (wpAny_Name (F.blt bl hk A _ _ s y.ext ?_) (by decide))
  refine callWith_kw ?_ (he pos) (hp pos) (hall pos) (hkw pos)
  have z := fun Q k => (evl_one a Is.per he).go (A := A) (s := s) (V := V) (Q := Q) (E := fun _ _ => False) pos rm y k
  refine z _ fun vs s1 pv l1 y1 => ?_
  obtain ⟨v, rfl, pv⟩ := pv
  refine kws_cons (kk.go rm y1 fun u s2 pu l2 y2 => kws_nil ?_)
  rw [hnm]
  have pv2 := Is.per (κ := κ) V v _ _ l2.ext pv
  obtain ⟨fl, rfl, hf, lam⟩ := pu
  cases pv2 with
  | @list ax items _ va pl r =>
  have hi := intsAre_of r
  refine Gv.after (wpa_sorted (T := .type "int") (lt := ltI ns key) (KP := fun i u _ => ∃ t, u = .int (key (ns.getD i 0)) t) y2 h64 hok hin (fun Q hQ => ?_) (ksk_s1 _ _) (fun i u h1 h2 k q => q) ?_ ?_ rfl (by decide) ?_) (l1.trans l2)
  · refine PyProof.Rows.collect_list (vs := items.toList) (by simpa using pl.isList) (hQ _ _ _ (fun b o e => ?_) hi) (by rw [hi.length]; exact Nat.le_trans (Nat.le_of_lt h64) (by decide))
    rw [Heap.get?_update_other _ _ (Nat.ne_of_gt (Heap.lt_size e))]
    exact Heap.get?_push_of_some _ e
  · intro i k t s' hk' l tk
    have z := lam [.int k] (.int (key k)) ⟨k, List.mem_of_getElem? hk', rfl, rfl⟩ A.in1.in1 s' Tr [.int k t] ((Rm.in1 (n := n + 2) (Rm.in1 (n := n + 3) rm)).le (by omega)) ((At.self y2.tk y2.ok).on l tk) (.cons (.int k t) .nil)
    refine wpAny_mono z (fun u s'' q => ?_) fun _ _ f => f
    obtain ⟨p', l3⟩ := q
    cases p'
    have e : ns.getD i 0 = k := by simp [List.getD, hk']
    exact ⟨e.symm ▸ ⟨_, rfl⟩, l3⟩
  · rintro i u s' l ⟨t, rfl⟩
    exact Looks.of_pure rfl
  · rintro i j u v s' hi' hj' l tk ⟨t, rfl⟩ ⟨t', rfl⟩
    exact kat_lt_int ⟨rfl, .refl _⟩
end Mine
end
section
open PySem PySem.W PySem.W.X PyProof.Rows PySem.Calls
set_option Elab.async false
set_option maxRecDepth 100000
set_option maxHeartbeats 1000000
namespace Mine
variable {κ : Cx} {h : Heap} {n : Nat} {t : Tx} {lo : Prop} {ta : Tab}
/-! ## _law_laid -/
theorem joinL_snoc (z : List Nat) (a : List Nat) : ∀ ls : List (List Nat), ls ≠ [] → joinL z (ls ++ [a]) = joinL z ls ++ (z ++ a)
  | [], h => absurd rfl h
  | [b], _ => rfl
  | b :: c :: r, _ => by
    show b ++ (z ++ joinL z ((c :: r) ++ [a])) = b ++ (z ++ joinL z (c :: r)) ++ (z ++ a)
    rw [joinL_snoc z a (c :: r) (by simp)]
    simp
theorem joinL_len (z : List Nat) : ∀ ls : List (List Nat), (joinL z ls).length ≤ (ls.map fun l => l.length + z.length).sum
  | [] => by simp [joinL]
  | [b] => by simp [joinL]
  | b :: c :: r => by
    have := joinL_len z (c :: r)
    show (b ++ (z ++ joinL z (c :: r))).length ≤ b.length + z.length + ((c :: r).map fun l => l.length + z.length).sum
    rw [List.length_append, List.length_append]; omega
noncomputable def strD (l : List Nat) : Da := .str (tx l)
noncomputable def qa1 : Pos → Str := fun _ => "_law_laid.<locals>.<lambda>"
theorem laid_ok {f : Addr} {pm doc : Value} {ls : List (List Nat)} (b : Base κ h) (fa : FnAt h f (fAt 9 pm (.ref ta.c) doc)) (bm : Bm κ h) (R : RedTop κ h) (hT : κ.T = t.tb lo) (hgd : t.Good) (hta : ta ∈ t.tabs) (hqa : ta.q = qa1) (hne : ls ≠ []) (hz : ∀ i, (joinL [32] (ls.take i)).length ≤ sizeLine) :
    Fun κ (n + 3) h (.ref f) (Iss [.list (ls.map strD)]) (Is (strD (joinL [32] ls))) := by
  refine fun_data (n := n + 2) (xs := ["pieces"]) (body := (dAt 9).body) b fa rfl rfl rfl rfl rfl rfl rfl ?_ nd1 ?_ fun V s₀ y => ?_
  · intro vs hv
    obtain ⟨v, rfl⟩ := List.length_eq_one_iff.mp hv
    rfl
  · intro x hx L
    simp only [List.mem_cons, List.not_mem_nil, or_false] at hx
    subst hx
    rfl
  refine ex_ret' (fun h' k F => ?_) fun v s' p l => ret_ok p l
  have e1 : strD (joinL [32] ls) = (fun i => strD (joinL [32] (ls.take i))) (ls.map strD).length := by simp
  rw [e1]
  refine ev_reduce (n := n + 1) (fold := fun i => strD (joinL [32] (ls.take i))) F (R.ext k) ?_ (ev_loc F rfl) ?_ Flat.str
  · refine ev_lamN (m := n) (xs := ["line", "piece"]) (δc := []) F (bm.ext k) hT hgd hta (by intro p; rw [hqa]; rfl) rfl rfl rfl rfl (fun x a e => by cases e) trivial (fun as r zz => by obtain ⟨i, d, _, _, e, _⟩ := zz; exact by rw [e]; rfl) (fun ctv code pm doc vs hvs => ?_) (nd2 (d := .none) (d' := .none) rfl) fun C f ctv code pm doc h'' as r g k2 F2 => ?_
    · refine Classical.byContradiction fun nay => ?_
      obtain ⟨v, u, rfl⟩ := len2 hvs
      refine nay ?_
      clear nay
      rfl
    · refine Classical.byContradiction fun nay => ?_
      obtain ⟨i, d, hi, e, rfl, rfl⟩ := g
      refine nay ?_
      clear nay
      simp only [List.getElem?_map, Option.map_eq_some_iff] at e
      refine Classical.byContradiction fun nay => ?_
      obtain ⟨l, hl, rfl⟩ := e
      refine nay ?_
      clear nay
      have hlt := (List.getElem?_eq_some_iff.mp hl).1
      have e2 : joinL [32] (ls.take (i + 1)) = joinL [32] (ls.take i) ++ [32] ++ l := by
        rw [List.take_add_one, hl]
        show joinL [32] (ls.take i ++ [l]) = _
        rw [joinL_snoc _ _ _ (List.ne_nil_of_length_pos (by rw [List.length_take]; omega))]; simp
      have hz1 := hz (i + 1)
      rw [e2, List.length_append] at hz1
      show Ev κ n _ h'' _ (Is (.str (tx (joinL [32] (ls.take (i + 1))))))
      rw [e2, ← tx_add, ← tx_add]
      refine ev_add_str (ev_add_str (ev_loc F2 rfl) (ev_str' litBlank) ?_) (ev_loc F2 rfl) ?_
      · rw [tx_length, tx_length]; rw [List.length_append] at hz1; omega
      · rw [tx_add, tx_length, tx_length]; omega
  · cases ls with
    | nil => exact absurd rfl hne
    | cons a r => rfl
end Mine
end
section
open PySem PySem.W PySem.W.X PyProof.Rows PySem.Calls
set_option Elab.async false
set_option maxRecDepth 100000
set_option maxHeartbeats 1000000
namespace Mine
variable {κ : Cx} {h : Heap} {n : Nat} {env : Env}
/-! ## _law_orders -/
/-- a range that is seen -/
noncomputable def RgV (k : Nat) : Pr := fun V v h => ∃ r t u w, v = .ref r ∧ V r ∧ IsRange h r 0 k 1 t u w
theorem rgV_per {k : Nat} : Per κ (RgV k) := fun _ _ _ _ e zz => by obtain ⟨r, t, u, w, hv, vr, ho⟩ := zz; exact ⟨r, t, u, w, hv, vr, Ext.get e ho fun z => by cases z⟩
theorem fun_rangeV {k : Nat} : Fun κ n h (.type "range") (One (Is (.int k))) (RgV k) := by
  rintro A s V vs rm y ⟨v, rfl, p⟩
  cases p
  exact call_range_1 ⟨⟨_, _, _, _, rfl, y.vis _ (.inr (get_none_of_size (Nat.le_refl _))), IsRange.new _ _ _ _ _ _ _⟩, .of_keep fun _ _ e => Heap.get?_push_of_some _ e⟩
noncomputable def lst (r : List Int) : Da := .list (nums r)
noncomputable def ordF (os : List (List Int)) (t : Int) : List (List Int) := os.flatMap fun o => (List.range (o.length + 1)).map fun p => o.take p ++ [t] ++ o.drop p
noncomputable def ords : Nat → List (List Int)
  | 0 => [[]]
  | i + 1 => ordF (ords i) i
noncomputable def esO : Da → List Da
  | .list l => upto (l.length + 1)
  | _ => []
noncomputable def fO (t : Int) : Da → Da → Da
  | .list l, .int p => .list (l.take p.toNat ++ [.int t] ++ l.drop p.toNat)
  | d, _ => d
theorem ordF_da (os : List (List Int)) (t : Int) : ((os.map lst).flatMap fun d => (esO d).map (fO t d)) = (ordF os t).map lst := by
  unfold ordF
  rw [List.flatMap_map, List.map_flatMap]
  congr 1
  funext o
  show (upto ((nums o).length + 1)).map _ = _
  unfold upto
  rw [List.map_map, List.map_map, List.length_map]
  refine List.map_congr_left fun p _ => ?_
  show Da.list (List.take _ (nums o) ++ [Da.int t] ++ List.drop _ (nums o)) = Da.list (nums (o.take p ++ [t] ++ o.drop p))
  simp [nums]
theorem ords_small {i : Nat} (hi : i < 4) : (ords i).length ≤ 6 ∧ (ords (i + 1)).length ≤ 24 ∧ ∀ o ∈ ords i, o.length ≤ 3 := by
  rcases i with _ | _ | _ | _ | i
  · decide
  · decide
  · decide
  · decide
  · omega
theorem orders_ok {f : Addr} {pm cd doc : Value} (b : Base κ h) (fa : FnAt h f (fAt 8 pm cd doc)) (bl : Blt κ "len" (.builtin "len")) (br : Blt κ "range" (.type "range")) :
    Fun κ (n + 1) h (.ref f) (One (RgV 4)) (Is (.list ((ords 4).map lst))) := by
  have hs : sizeLine = 16777216 := rfl
  rintro A s V vs rm y ⟨v, rfl, r, t, u, w, rfl, vr, R⟩
  have kc : Ext κ.T h (cutH V s.heap) := cutH_of y.ext fun a e => y.vis a (.inl e)
  have Rc : IsRange (cutH V s.heap) r 0 4 1 t u w := (cutH_yes vr).trans R
  refine fun_data (h := cutH V s.heap) (n := n) (xs := ["things"]) (ds := [.val (.ref r)]) (P := Is (.list ((ords 4).map lst))) (body := (dAt 8).body) (b.ext kc) (fa.ext kc) rfl rfl rfl rfl rfl rfl rfl ?_ nd1 ?_ (fun V s₀ y => ?_) A s V [.ref r] rm (cutH_at y.tk y.ok fun a e => y.vis a (.inr e)) (.cons (.val _) .nil)
  · intro vs hv
    obtain ⟨v, rfl⟩ := List.length_eq_one_iff.mp hv
    rfl
  · intro x hx L
    simp only [List.mem_cons, List.not_mem_nil, or_false] at hx
    subst hx
    rfl
  refine ex_assign' (d := .list ((ords 0).map lst)) (fun h' k F => ev_list (evl_is (ev_list evl_is_nil (by decide)) evl_is_nil) (by decide)) ?_
  refine ex_for (ds := upto 4) (δ' := [("orders", .list ((ords 4).map lst))]) (fun _ => True) (fun i => [("orders", .list ((ords i).map lst)), ("things", .val (.ref r))])
    (fun h' k F => src_range (by decide) (ev_name (F.vr rfl) (fun V _ => ⟨r, t, u, w, rfl, Ext.get k Rc fun z => by cases z⟩) rg_per)) ?_ (fun _ => ⟨by rw [upto_length]; rfl, trivial⟩) trivial ⟨rfl, rfl, trivial⟩ ?_
  · intro i d hd _
    have hi : i < 4 := by
      have := (List.getElem?_eq_some_iff.mp hd).1
      rwa [upto_length] at this
    rw [upto_get hi] at hd
    cases hd
    obtain ⟨z1, z2, z3⟩ := ords_small hi
    refine ex_of (d := .list ((ords (i + 1)).map lst)) (fun h' k F => ?_) (ex_nil fun s F => ⟨trivial, F.weak ⟨rfl, rfl, trivial⟩⟩)
    have e1 : (ords (i + 1)).map lst = ((ords i).map lst).flatMap fun d => (esO d).map (fO (i : Int) d) := (ordF_da _ _).symm
    have hat : ∀ {j : Nat} {d : Da}, ((ords i).map lst)[j]? = some d → ∃ o, o ∈ ords i ∧ d = lst o := fun {j d} e => by
      simp only [List.getElem?_map, Option.map_eq_some_iff] at e
      obtain ⟨o, h1, h2⟩ := e
      exact ⟨o, List.mem_of_getElem? h1, h2.symm⟩
    rw [e1]
    refine core_nest (es := esO) (f := fO (i : Int)) (src_list (ev_loc F rfl)) (by rw [← e1, List.length_map]; omega) rfl (clB_one rfl (by exact fun z => by cases z)) (fun C j d h'' k' hd F' => ?_) fun C j m d e h'' k' hd he F' => ?_
    · obtain ⟨o, ho, rfl⟩ := hat hd
      have h3 := z3 o ho
      refine src_rangeO (k := (nums o).length + 1) (by rw [List.length_map]; omega) (ev_call_t (F'.blt br) (evl_one (ev_add_int (ev_call_b (F'.blt bl) (evl_one (ev_loc F' rfl) Is.per) (fun_len_list (by rw [List.length_map]; omega))) ev_int) Is.per) fun_range)
    · obtain ⟨o, ho, rfl⟩ := hat hd
      have h3 := z3 o ho
      have hm : m < (nums o).length + 1 := by
        have := (List.getElem?_eq_some_iff.mp he).1
        rwa [show esO (lst o) = upto ((nums o).length + 1) from rfl, upto_length] at this
      rw [show esO (lst o) = upto ((nums o).length + 1) from rfl, upto_get hm] at he
      cases he
      have hl : (nums o).length ≤ 3 := by rw [List.length_map]; exact h3
      exact ev_ladd (ev_ladd (ev_lcut_to (j := m) (ev_loc F' rfl) (ev_loc F' rfl) (by omega)) (ev_list (evl_is (ev_loc F' rfl) evl_is_nil) (show 1 ≤ sizeLine by decide)) (by rw [List.length_take, List.length_singleton]; exact Nat.le_trans (Nat.add_le_add_right (Nat.le_trans (Nat.min_le_right _ _) hl) 1) (show 3 + 1 ≤ sizeLine by decide))) (ev_lcut_from (i := m) (ev_loc F' rfl) (ev_loc F' rfl) (by omega))
        (by rw [List.length_append, List.length_take, List.length_drop, List.length_singleton]; exact Nat.le_trans (Nat.add_le_add (Nat.add_le_add_right (Nat.le_trans (Nat.min_le_right _ _) hl) 1) (Nat.le_trans (Nat.sub_le _ _) hl)) (show 3 + 1 + 3 ≤ sizeLine by decide))
  · exact ex_ret' (fun h' k F => ev_loc F rfl) fun v s' p l => ret_ok p l
end Mine
end
section
open PySem PySem.W PySem.W.X PyProof.Rows PySem.Calls
set_option Elab.async false
set_option maxRecDepth 100000
set_option maxHeartbeats 1000000
namespace Mine
variable {κ : Cx} {h : Heap} {n : Nat} {env : Env}
/-! ## _law_reckoned -/
theorem put_ne {x y : Str} {v : Value} {ρ : Str → Option Value} (h : x ≠ y) : put y v ρ x = ρ x := if_neg h
theorem put_eq {x : Str} {v : Value} {ρ : Str → Option Value} : put x v ρ x = some v := if_pos rfl
noncomputable abbrev Part := List Nat × Bool
noncomputable def partD (x : Part) : Da := .tup [strD x.1, .bool x.2]
noncomputable def prt (parts : List Part) (p : Int) : Part := parts.getD p.toNat ([], true)
noncomputable def toldL (parts : List Part) : List Int → List (List Nat)
  | [] => []
  | p :: r => (prt parts p).1 :: (if (prt parts p).2 then toldL parts r else [])
theorem toldL_all (parts : List Part) : ∀ o : List Int, (∀ p ∈ o, (prt parts p).2 = true) → toldL parts o = o.map fun p => (prt parts p).1
  | [], _ => rfl
  | p :: r, h => by
    rw [toldL, h p List.mem_cons_self, if_pos rfl, toldL_all parts r fun q hq => h q (List.mem_cons_of_mem _ hq)]; rfl
theorem toldL_end (parts : List Part) : ∀ (o : List Int) (j : Nat) (p : Int), o[j]? = some p → (∀ q ∈ o.take j, (prt parts q).2 = true) → (prt parts p).2 = false → toldL parts o = (o.take (j + 1)).map fun p => (prt parts p).1
  | [], _, _, e, _, _ => by cases e
  | a :: r, 0, p, e, _, hp => by
    cases e
    rw [toldL, hp]; rfl
  | a :: r, j + 1, p, e, h, hp => by
    rw [toldL, h a List.mem_cons_self, if_pos rfl, toldL_end parts r j p e (fun q hq => h q (List.mem_cons_of_mem _ hq)) hp]; rfl
theorem toldL_sub (parts : List Part) : ∀ o : List Int, (toldL parts o).length ≤ o.length
  | [] => Nat.le_refl _
  | p :: r => by
    rw [toldL]
    have := toldL_sub parts r
    cases (prt parts p).2 <;> simp <;> omega
theorem prt_at {parts : List Part} {p : Int} (_ : 0 ≤ p) (h1 : p.toNat < parts.length) : (parts.map partD)[p.toNat]? = some (partD (prt parts p)) := by
  unfold prt
  rw [List.getElem?_map, List.getD_eq_getElem?_getD, List.getElem?_eq_getElem h1]; rfl
theorem dns_str {V W : Addr → Prop} {h h' : Heap} {vs : List Value} {xs : List (List Nat)} (d : Dns V h vs (xs.map strD)) : Dns W h' vs (xs.map strD) :=
  Dns.mapInd strD (P := fun vs xs => Dns W h' vs (xs.map strD)) .nil (fun _ _ _ _ p ih => .cons (by cases p; exact .str _ _) ih) d
theorem reckoned_ok {f : Addr} {pm cd doc : Value} {order : List Int} {parts : List Part} (b : Base κ h) (fa : FnAt h f (fAt 7 pm cd doc)) (hin : ∀ p ∈ order, 0 ≤ p ∧ p < 2 ^ 63 ∧ p.toNat < parts.length) (hz : order.length ≤ 1000) (hp : ∀ x ∈ parts, x.1.length ≤ 1000) :
    Fun κ (n + 1) h (.ref f) (Iss [lst order, .list (parts.map partD)]) (Is (strD (joinL [32] (toldL parts order)))) := by
  have hs : sizeLine = 16777216 := rfl
  have hp1 : ∀ p : Int, p.toNat < parts.length → (prt parts p).1.length ≤ 1000 := fun p hlt => by
    refine hp _ ?_
    unfold prt
    rw [List.getD_eq_getElem?_getD, List.getElem?_eq_getElem hlt]
    exact List.getElem_mem hlt
  refine fun_dataW (xs := ["order", "parts"]) (es := [lst order, .list (parts.map partD)]) (body := (dAt 7).body) b fa rfl rfl rfl rfl rfl rfl rfl (fun V s₀ vs y pa => ⟨vs, pa, pa.length, fun A Q E hq => ?_⟩) (nd2 (d := .none) (d' := .none) rfl) ?_ fun V s₀ y A s rm F => ?_
  · obtain ⟨v, u, rfl⟩ := len2 pa.length
    exact wpAny_of_eq rfl hq
  · intro x hx L
    simp only [List.mem_cons, List.not_mem_nil, or_false] at hx
    rcases hx with rfl | rfl <;> rfl
  refine wpost fun Q E' hQ _ => ?_
  obtain ⟨env, hE⟩ : ∃ env, callEnvC (fAt 7 pm cd doc) s₀.heap.objs.size f = env := ⟨_, rfl⟩
  rw [hE] at F ⊢
  have kd : ∀ x : Str, env.kindOf x = (dAt 7).scope.names.lookup x := fun x => by rw [← hE]; rfl
  have lb : ∀ x ∈ (["order", "parts", "told", "place"] : List Str), liesB env x = true := fun x hx => by
    rw [← hE]
    simp only [List.mem_cons, List.not_mem_nil, or_false] at hx
    rcases hx with rfl | rfl | rfl | rfl <;> rfl
  have ko : liesB env "order" = true := lb _ (by decide)
  have kp : liesB env "parts" = true := lb _ (by decide)
  have kt : liesB env "told" = true := lb _ (by decide)
  have kc : liesB env "place" = true := lb _ (by decide)
  have kN1 : env.kindOf "told" = some .local := (kd _).trans rfl
  have kN2 : env.kindOf "place" = some .local := (kd _).trans rfl
  have ki : interactive env = false := by rw [← hE]; rfl
  clear lb kd hE
  obtain ⟨ρ, G, H⟩ := id F.ex
  obtain ⟨vo, po, dvo⟩ := H "order" _ rfl
  obtain ⟨vp, pp, dvp⟩ := H "parts" _ rfl
  have fresh : s.heap.get? s.heap.objs.size = none := get_none_of_size (Nat.le_refl _)
  have noL : ∀ b, Loc env b → ∃ o, s.heap.get? b = some o ∧ (∀ vs, o.data ≠ .fields vs) ∧ (Held o → False) := G.locAt
  obtain ⟨X, xl, xn, xe⟩ : ∃ X : Addr → Prop, (∀ b, Loc env b → X b) ∧ (∀ b, s.heap.get? b = none → X b) ∧ ∀ b, X b → Loc env b ∨ s.heap.get? b = none := ⟨fun b => Loc env b ∨ s.heap.get? b = Option.none, fun _ q => .inl q, fun _ q => .inr q, fun _ q => q⟩
  have keep : ∀ h', ExtB κ.T X s.heap h' → Kv V s.heap h' := fun h' e b o vb eb hd => ExtB.get_data e (fun xb => by
    rcases xe _ xb with lb | z
    · obtain ⟨o', e', _, n2⟩ := noL b lb
      rw [eb] at e'; cases e'; exact n2 hd
    · rw [z] at eb; cases eb) eb fun vs' q => hd.ne q rfl
  refine wpAny_execs_cons (wpAny_Assign_Name (List_ (spliced_nil (wpAny_newObj_type ?_ (show 0 ≤ sizeLine by decide)))) rfl)
  have hL1 : (s.heap.push { cls := .type "list", dict := none, data := .seq ([] : List Value).toArray }).PlainList s.heap.objs.size #[] := ⟨_, Heap.get?_push_size _ rfl⟩
  have G1 : In κ h V s₀ env ρ { s with heap := s.heap.push { cls := .type "list", dict := none, data := .seq ([] : List Value).toArray } } := G.on .newObj G.tk
  have nLL : ¬ Loc env s.heap.objs.size := fun lb => by
    obtain ⟨o, e, _⟩ := noL _ lb
    rw [fresh] at e; cases e
  have newL : s₀.heap.get? s.heap.objs.size = none := Ext.back G.l.ext fresh
  refine G1.store (.inl kN1) fun s2 G2 k2 e2 => ?_
  have e02 : ExtB κ.T X s.heap s2.heap := (ExtB.push (X := X) _).trans (e2.mono fun b q => xl b q)
  have hL2 : s2.heap.PlainList s.heap.objs.size #[] := by obtain ⟨q, e⟩ := hL1; exact ⟨q, ExtB.get_data e2 nLL e fun vs z => by cases z⟩
  obtain ⟨L, hLe⟩ : ∃ L, s.heap.objs.size = L := ⟨_, rfl⟩
  rw [hLe] at fresh nLL newL hL2 G2
  have hold : ∀ ρ' s', In κ h V s₀ env ρ' s' → ρ' "told" = some (.ref L) → ρ' "order" = some vo → ρ' "parts" = some vp → ExtB κ.T X s.heap s'.heap →
      Holds V s'.heap ρ' [("told", .val (.ref L)), ("order", lst order), ("parts", .list (parts.map partD))] := fun ρ' s' G' h1 h2 h3 e z d q => by
    rw [List.lookup_cons] at q
    split at q
    · rename_i r; cases q
      rw [show z = ("told" : Str) by simpa using r]
      exact ⟨_, h1, .val _⟩
    · rw [List.lookup_cons] at q
      split at q
      · rename_i r; cases q
        rw [show z = ("order" : Str) by simpa using r]
        exact ⟨_, h2, dvo.kv (keep _ e)⟩
      · rw [List.lookup_cons] at q
        split at q
        · rename_i r; cases q
          rw [show z = ("parts" : Str) by simpa using r]
          exact ⟨_, h3, dvp.kv (keep _ e)⟩
        · cases q
  have H2 := hold _ s2 G2 put_eq ((put_ne (by decide)).trans po) ((put_ne (by decide)).trans pp) e02
  have F2 : Fr κ h V s₀ env _ s2 := ⟨_, G2, H2⟩
  -- ' '.join(told)
  have vL : V L := y.vis L (.inr newL)
  have joined : ∀ {δ' : Del} {s3 : Shared} {ys : Array Value} {xs : List (List Nat)} {p1 p2 p3 p4 : Pos} {k1 : Nat}, Fr κ h V s₀ env δ' s3 → δ'.lookup ("told" : Str) = some (.val (.ref L)) → s3.heap.PlainList L ys → Dns V s3.heap ys.toList (xs.map strD) → xs.length ≤ 1001 → (∀ x ∈ xs, x.length ≤ 1000) → (p2.endLine == p4.line) = true →
      Ev κ n env (cutH V s3.heap) (.Call (.Attribute (.Constant (.str " ") k1 p1) "join" p2) [.Name "told" p3] [] p4) (Is (strD (joinL [32] xs))) := fun {δ' s3 ys xs p1 p2 p3 p4 k1} F3 hx pl dy hn hx1 hln => by
    unfold strD
    rw [← join_tx]
    have dc : Dns V (cutH V s3.heap) ys.toList (xs.map strD) := dy.kv fun b o vb eb _ => (cutH_yes vb).trans eb
    have pc : (cutH V s3.heap).PlainList L ys := by obtain ⟨q, e⟩ := pl; exact ⟨q, (cutH_yes vL).trans e⟩
    refine ev_join (ev_str' litBlank) (ev_name (F3.fd.vr hx (hl := kt)) (fun W hW => ?_) Is.per) (joinOk_tx ?_) rfl hln
    · have e1 : (xs.map tx).map Da.str = xs.map strD := by rw [List.map_map]; rfl
      rw [e1]
      exact (Dn.list (V := V) vL pc dc).at fun a _ ea => hW a ea
    · have : (xs.map List.length).sum ≤ 1000 * xs.length := by
        clear dy dc hn
        induction xs with
        | nil => simp
        | cons a r ih =>
          have h1 := hx1 a List.mem_cons_self
          have h2 := ih fun x hx => hx1 x (List.mem_cons_of_mem _ hx)
          simp only [List.map_cons, List.sum_cons, List.length_cons]; omega
      simp only [List.length_singleton]
      omega
  -- the loop
  cases dvo with
  | @list ax items _ va pl r =>
  have axN : s.heap.get? ax ≠ none := by obtain ⟨_, e⟩ := pl; rw [e]; exact fun z => by cases z
  have axL : ax ≠ L := fun q => axN (q ▸ fresh)
  have nLax : ¬ Loc env ax := fun lb => by
    obtain ⟨o, e, _, n2⟩ := noL ax lb
    obtain ⟨q, e'⟩ := pl
    rw [e] at e'; cases e'; exact n2 (.inl ⟨_, _, rfl⟩)
  have plx : ∀ h', ExtB κ.T X s.heap h' → h'.PlainList ax items := fun h' e => (keep h' e).plain va pl
  have hlen : items.size = order.length := by rw [← Array.length_toList, r.length, List.length_map]
  refine wpAny_execs_cons (wpAny_For (wpAny_Name (vr_of G2.fm (v := .ref ax) ((put_ne (by decide)).trans po) (lies_of ko) A _ _ s2 F2.at.ext ?_) (by decide)) (by intro _; rfl))
  refine wpAny_pyIter_list (plx _ e02).isList ?_
  have hax2 : ax < s2.heap.objs.size := by obtain ⟨_, e⟩ := plx _ e02; exact Heap.lt_size e
  have ww := Walks.list (prog := κ.prog) (w := κ.w) (A := A) rm.hd s2.heap.objs.size ax (Nat.ne_of_lt hax2) items
  have hI2 : s2.heap.get? s2.heap.objs.size = none := get_none_of_size (Nat.le_refl _)
  have hIs : s.heap.get? s2.heap.objs.size = none := by
    cases q : s.heap.get? s2.heap.objs.size with
    | none => rfl
    | some o =>
      by_cases lb : Loc env s2.heap.objs.size
      · obtain ⟨o', e', _⟩ := G2.locAt _ lb
        rw [hI2] at e'; cases e'
      · rcases e02 _ o (fun xb => by rcases xe _ xb with z | z; exact lb z; rw [z] at q; cases q) q with z | ⟨_, _, _, _, z⟩ <;> rw [hI2] at z <;> cases z
  have nLI : ¬ Loc env s2.heap.objs.size := fun lb => by
    obtain ⟨o', e', _⟩ := G2.locAt _ lb
    rw [hI2] at e'; cases e'
  have newI : s₀.heap.get? s2.heap.objs.size = none := Ext.back F2.lt.ext hI2
  have LI : L ≠ s2.heap.objs.size := fun q => by
    obtain ⟨_, e⟩ := hL2
    rw [q, hI2] at e; cases e
  have G3 : In κ h V s₀ env _ { s2 with heap := s2.heap.push { cls := .type "list_iterator", data := .fields #[.ref ax, rawInt 0] } } := G2.on .newObj G2.tk
  have up3 : ∀ b o, s2.heap.get? b = some o → (s2.heap.push { cls := .type "list_iterator", data := .fields #[.ref ax, rawInt 0] }).get? b = some o := fun b o e => Heap.get?_push_of_some _ e
  have st0 : (s2.heap.push { cls := .type "list_iterator", data := .fields #[.ref ax, rawInt 0] }).IsListIter s2.heap.objs.size ax 0 := ⟨_, Heap.get?_push_size _ rfl, rfl, rfl⟩
  have hL3 : (s2.heap.push { cls := .type "list_iterator", data := .fields #[.ref ax, rawInt 0] }).PlainList L #[] := by obtain ⟨q, e⟩ := hL2; exact ⟨q, up3 _ _ e⟩
  have e03 := e02.trans (ExtB.of_keep (T := κ.T) (X := X) fun b o _ e => up3 b o e)
  obtain ⟨I, hIe⟩ : ∃ I, s2.heap.objs.size = I := ⟨_, rfl⟩
  rw [hIe] at ww hIs nLI newI LI st0 ⊢
  obtain ⟨J, hJ, hJ'⟩ : ∃ J : Nat → Shared → Prop, (∀ k s', J k s' → ∃ j ys ρ', j ≤ items.size ∧ k = items.size + 1 - j ∧ (∀ q ∈ order.take j, (prt parts q).2 = true) ∧ s'.heap.IsListIter I ax j ∧ In κ h V s₀ env ρ' s' ∧ (ρ' "told" = some (.ref L) ∧ ρ' "order" = some (.ref ax) ∧ ρ' "parts" = some vp) ∧
      s'.heap.PlainList L ys ∧ Dns V s'.heap ys.toList (((order.take j).map fun p => (prt parts p).1).map strD) ∧ ExtB κ.T X s.heap s'.heap) ∧ ∀ k s', (∃ j ys ρ', j ≤ items.size ∧ k = items.size + 1 - j ∧ (∀ q ∈ order.take j, (prt parts q).2 = true) ∧ s'.heap.IsListIter I ax j ∧ In κ h V s₀ env ρ' s' ∧ (ρ' "told" = some (.ref L) ∧ ρ' "order" = some (.ref ax) ∧ ρ' "parts" = some vp) ∧
      s'.heap.PlainList L ys ∧ Dns V s'.heap ys.toList (((order.take j).map fun p => (prt parts p).1).map strD) ∧ ExtB κ.T X s.heap s'.heap) → J k s' := ⟨_, fun _ _ z => z, fun _ _ z => z⟩
  refine codeAny_forLoop J ?_ (items.size + 1)
    (hJ' _ _ ⟨0, #[], _, Nat.zero_le _, rfl, (by simp), st0, G3, ⟨put_eq, (put_ne (by decide)).trans po, (put_ne (by decide)).trans pp⟩, hL3, .nil, e03⟩) (fun _ => rfl)
  refine fun k s' hi => wpost fun Q1 E1 hQ1 _ => ?_
  obtain ⟨j, ys, ρ', hj, hk0, jj, hst, G', ⟨h1, h2, h3⟩, hL', dys, e'⟩ := hJ _ _ hi
  have H' := hold _ s' G' h1 h2 h3 e'
  have hstf := (⟨hst, (plx _ e').isList⟩ : s'.heap.IsListIter I ax j ∧ s'.heap.IsList ax items)
  have hkI : ∀ h₁ : Heap, (∀ b o, b ∉ [I] → s'.heap.get? b = some o → h₁.get? b = some o) → ExtB κ.T X s'.heap h₁ := fun h₁ hk b o nb e => .inl (hk b o (fun q => nb (xn _ (by rw [List.mem_singleton.mp q]; exact hIs))) e)
  have cmI : ∀ h₁ : Heap, (∀ b o, b ∉ [I] → s'.heap.get? b = some o → h₁.get? b = some o) → Calm s'.heap h₁ := fun h₁ hk => Calm.but (fun b => b ∈ [I]) hk fun b o vs hb e _ => by
    rw [List.mem_singleton.mp hb] at e
    obtain ⟨o', e2, c2, _⟩ := hst
    rw [e] at e2; cases e2; rw [c2]
    exact ⟨fun q => (by cases q), by decide⟩
  have newIl : ∀ b ∈ [I], s₀.heap.get? b = none := fun b hb => by rw [List.mem_singleton.mp hb]; exact newI
  have nlIl : ∀ b ∈ [I], ¬ Loc env b := fun b hb => by rw [List.mem_singleton.mp hb]; exact nLI
  by_cases hlt : j < items.size
  · refine wpAny_with_toks (n := 1) G'.tk (ww.item j _ _ _ hlt hstf fun v h₁ tk₁ hPv hst₁ hk₁ htk₁ => ?_)
    have G1' := G'.turn hk₁ newIl nlIl (cmI h₁ hk₁) htk₁
    have e1 := e'.trans (hkI h₁ hk₁)
    obtain ⟨d, hd, dv⟩ := r.get' (i := j) (v := v) (by simpa using hPv)
    obtain ⟨p, hpj, rfl⟩ : ∃ p, order[j]? = some p ∧ d = .int p := by
      simp only [List.getElem?_map, Option.map_eq_some_iff] at hd
      obtain ⟨p, h1, h2⟩ := hd
      exact ⟨p, h1, h2.symm⟩
    cases dv with | int _ tk => ?_
    obtain ⟨q0, q1, q2⟩ := hin p (List.mem_of_getElem? hpj)
    refine hQ1 _ _ (wpAny_assign_Name (G1'.store (.inl kN2) fun s4 G4 k4 e4 => ?_))
    have e4' := e1.trans (e4.mono (Y := X) fun b q => xl b q)
    have H4 := hold _ s4 G4 ((put_ne (by decide)).trans h1) ((put_ne (by decide)).trans h2) ((put_ne (by decide)).trans h3) e4'
    have F4 : Fr κ h V s₀ env [("place", .int p), ("told", .val (.ref L)), ("order", lst order), ("parts", .list (parts.map partD))] s4 := ⟨_, G4, fun z d q => by
      rw [List.lookup_cons] at q
      split at q
      · rename_i r; cases q
        rw [show z = ("place" : Str) by simpa using r]
        exact ⟨_, put_eq, .int _ _⟩
      · exact H4 z d q⟩
    have hLs : ∀ h', ExtB κ.T (fun b => Loc env b) h₁ h' → h'.PlainList L ys ∧ h'.IsListIter I ax (j + 1) := fun h' e => by
      obtain ⟨q, eL⟩ := hL'
      obtain ⟨⟨o, eI, cI, dI⟩, _⟩ := hst₁
      exact ⟨⟨q, ExtB.get_data e nLL (hk₁ L _ (fun z => LI (List.mem_singleton.mp z)) eL) fun vs z => by cases z⟩, o, ExtB.get e nLI eI (by rw [cI]; exact fun z => by cases z), cI, dI⟩
    obtain ⟨hL4, hI4⟩ := hLs _ e4
    have kvI : Kv V s'.heap h₁ := fun b o _ eb hd => hk₁ b o (fun z => by
      rw [List.mem_singleton.mp z] at eb
      obtain ⟨o', e2, _, d2⟩ := hst
      rw [eb] at e2; cases e2; exact hd.ne d2 rfl) eb
    have dys4 := (dys.kv kvI).kv k4
    have item : ∀ {h' : Heap} {x : Nat} {d : Da} {p1 p2 p3 p4 p5 : Pos} {k1 : Nat}, Fd κ h' env [("place", .int p), ("told", .val (.ref L)), ("order", lst order), ("parts", .list (parts.map partD))] → ([strD (prt parts p).1, .bool (prt parts p).2] : List Da)[x]? = some d → x < 2 →
        Ev κ n env h' (.Subscript (.Subscript (.Name "parts" p1) (.Name "place" p2) p3) (.Constant (.int (x : Int)) k1 p4) p5) (Is d) := fun {h' x d p1 p2 p3 p4 p5 k1} Fi hx hx2 =>
      ev_item_t (k := (x : Int)) (ev_item (k := p) (ev_loc Fi rfl kp) (ev_loc Fi rfl kc) q0 q1 (prt_at q0 q2)) ev_int (by omega) (by omega) (by simpa using hx)
    -- told.append(parts[place][0])
    refine wpAny_execs_cons (wpAny_Expr (wpAny_Call_method1_late rfl rfl rfl ((ev_name (P := Vl (.ref L)) (F4.fd.vr rfl (hl := kt)) (fun _ _ => rfl) Vl.per).go rm F4.at fun ov s5 pv l5 y5 => ?_)) (hi := ki))
    cases pv
    have hL5 := (Ext.kv (V := Tr) l5.ext).plain trivial hL4
    refine ⟨"list", "list.append", PySem.F.plainAttrs_list, PySem.F.slot_list_append, PySem.F.type_list_append, hL5.isList.typeIs, fun _ e => (by cases e; obtain ⟨q, e⟩ := hL5; exact ⟨_, e, rfl⟩), callWith_builtin (by rfl) (evalArgs_plain (spliced_cons ((item (x := 0) F4.fd rfl (by decide)).go rm y5 fun u s6 pu l6 y6 => spliced_nil ?_)))⟩
    have l56 := l5.trans l6
    have hL6 := (Ext.kv (V := Tr) l6.ext).plain trivial hL5
    have hysz : ys.size = j := by
      have e1 := dys.length
      rw [Array.length_toList, List.length_map, List.length_map, List.length_take] at e1
      omega
    refine wpAny_list_append_plain (hsz := by omega) hL6 fun h7 hl7 hs7 => ?_
    have hk7 : ∀ b o, b ∉ [L] → s6.heap.get? b = some o → h7.get? b = some o := fun b o nb e => hs7.extBut b o (fun q => nb (by simp [q])) e
    have G7 := (G4.on l56 y6.tk).turn (wr := [L]) hk7 (fun b hb => by rw [List.mem_singleton.mp hb]; exact newL) (fun b hb => by rw [List.mem_singleton.mp hb]; exact nLL) (Calm.but (fun b => b ∈ [L]) hk7 fun b o vs hb e hd => by
      obtain ⟨q, eL⟩ := hL6
      rw [List.mem_singleton.mp hb, eL] at e; cases e; cases hd) y6.tk
    have e7 := (e4'.trans (l56.toB (X := X)).ext).trans (ExtB.sameBut (T := κ.T) (X := X) hs7 (xn _ fresh))
    have H7 := hold _ ⟨h7, s6.gens, s6.drawn, s6.toks, s6.os⟩ G7 ((put_ne (by decide)).trans h1) ((put_ne (by decide)).trans h2) ((put_ne (by decide)).trans h3) e7
    have F7 : Fr κ h V s₀ env [("place", .int p), ("told", .val (.ref L)), ("order", lst order), ("parts", .list (parts.map partD))] ⟨h7, s6.gens, s6.drawn, s6.toks, s6.os⟩ := ⟨_, G7, fun z d q => by
      rw [List.lookup_cons] at q
      split at q
      · rename_i r; cases q
        rw [show z = ("place" : Str) by simpa using r]
        exact ⟨_, put_eq, .int _ _⟩
      · exact H7 z d q⟩
    have hI7 : h7.IsListIter I ax (j + 1) := by
      obtain ⟨o, eo, co, dd⟩ := hI4
      exact ⟨o, hs7.extBut _ _ LI.symm (Ext.get l56.ext eo (by rw [co]; exact fun z => by cases z)), co, dd⟩
    have dys7 : Dns V h7 (ys.push u).toList (((order.take (j + 1)).map fun p => (prt parts p).1).map strD) := by
      rw [List.take_add_one, hpj, Option.toList_some, List.map_append, List.map_append, Array.toList_push]
      exact (dns_str dys).append (dns_str (V := V) (h := s6.heap) (xs := [(prt parts p).1]) (.cons pu .nil))
    refine wpAny_execs_cons (wpAny_If (EvB.go (n := n) (evb_not (b := (prt parts p).2) (evb_of (item (x := 1) F7.fd rfl (by decide)))) rm F7.at fun s8 l8 y8 => ?_))
    have G8 := G7.on l8 y8.tk
    have hL8 := (Ext.kv (V := Tr) l8.ext).plain trivial hl7
    have e8 := e7.trans (l8.toB (X := X)).ext
    cases hw : (prt parts p).2 with
    | true =>
      rw [if_neg (by simp)]
      have hI8 : s8.heap.IsListIter I ax (j + 1) := by
        obtain ⟨o, eo, co, dd⟩ := hI7
        exact ⟨o, Ext.get l8.ext eo (by rw [co]; exact fun z => by cases z), co, dd⟩
      refine wpAny_execs_nil (wpAny_execs_nil ⟨items.size + 1 - (j + 1), hk0.symm ▸ turn_lt hlt, hJ' _ _ ⟨j + 1, ys.push u, _, hlt, rfl, fun q hq => ?_, hI8, G8, ⟨(put_ne (by decide)).trans h1, (put_ne (by decide)).trans h2, (put_ne (by decide)).trans h3⟩, hL8, dns_str dys7, e8⟩⟩)
      rw [List.take_add_one, hpj, Option.toList_some, List.mem_append, List.mem_singleton] at hq
      rcases hq with hq | rfl
      · exact jj q hq
      · exact hw
    | false =>
      rw [if_pos (by simp)]
      have F8 := F7.on l8 y8.tk
      refine wpAny_execs_cons (wpAny_Return_some (G8.go ((joined F8 rfl hL8 (dns_str dys7) (by rw [List.length_map, List.length_take]; omega) (fun x hx => ?_) rfl) : Ev κ n _ _ _ (Is (strD (joinL [32] ((order.take (j + 1)).map fun p => (prt parts p).1))))) rm fun v s9 pv l9 G9 => ?_))
      · obtain ⟨p', hp', rfl⟩ := List.mem_map.mp hx
        exact hp1 p' (hin p' (List.mem_of_mem_take hp')).2.2
      · rw [← toldL_end parts order j p hpj jj hw] at pv
        exact hQ _ _ ⟨⟨v, rfl, pv⟩, G9.l⟩
  · have hjn : j = items.size := by omega
    subst hjn
    refine wpAny_with_toks (n := 1) G'.tk (ww.done _ _ _ hstf fun h₁ tk₁ hk₁ htk₁ => ?_)
    have G1' := G'.turn hk₁ newIl nlIl (cmI h₁ hk₁) htk₁
    have e1 := e'.trans (hkI h₁ hk₁)
    have H1 := hold _ ⟨h₁, s'.gens, s'.drawn, tk₁, s'.os⟩ G1' h1 h2 h3 e1
    have hLh : h₁.PlainList L ys := by obtain ⟨q, e⟩ := hL'; exact ⟨q, hk₁ L _ (fun z => LI (List.mem_singleton.mp z)) e⟩
    have dys1 : Dns V h₁ ys.toList (((order.take items.size).map fun p => (prt parts p).1).map strD) := dys.kv fun b o _ eb hd => hk₁ b o (fun z => by
      rw [List.mem_singleton.mp z] at eb
      obtain ⟨o', e2, _, d2⟩ := hst
      rw [eb] at e2; cases e2; exact hd.ne d2 rfl) eb
    rw [hlen, List.take_length] at dys1 jj
    refine hQ1 _ _ (wpAny_execs_nil (wpAny_execs_cons (wpAny_Return_some (G1'.go ((joined ⟨_, G1', H1⟩ rfl hLh dys1 (by rw [List.length_map]; omega) (fun x hx => ?_) rfl) : Ev κ n _ _ _ (Is (strD (joinL [32] (order.map fun p => (prt parts p).1))))) rm fun v s4 p l G4 => ?_))))
    · obtain ⟨p, hp', rfl⟩ := List.mem_map.mp hx
      exact hp1 p (hin p hp').2.2
    · rw [← toldL_all parts order jj] at p
      exact hQ _ _ ⟨⟨v, rfl, p⟩, G4.l⟩
end Mine
end
section
open PySem PySem.W PySem.W.X PyProof.Rows PySem.Calls
set_option Elab.async false
set_option maxRecDepth 100000
namespace Mine
/-! ## the set of signs that a shell would read -/
noncomputable def codeA : Array Nat := #[14, 17, 4, 1, 1, 21, 9, 0, 604043296, 1, 0, 0, 0, 0, 0, 8, 4, 0, 13, 14, 21, 9, 0, 604043296, 1, 0, 0, 0, 0, 0, 8, 4, 0, 1]
noncomputable def wordA (k : Nat) : Nat := [0, 604043296, 1, 0, 0, 0, 0, 0].getD k 0
noncomputable def unsA (c : Nat) : Bool := !((decide (c < 256) && (wordA (c / 32)).testBit (c % 32)) || Sre.isWord c)
theorem inSetA (i c : Nat) (s1 s2 s3 : Sre.Seen) (hw : ∀ k, k < 8 → codeA.getD (i + 1 + (1 + k)) 0 = wordA k) :
    ∃ seen', (if (decide (c < 256) && (codeA.getD (i + 1 + (1 + c / 32)) 0).testBit (c % 32)) = true then Except.ok (false, s1) else (do
      if ← Sre.category 4 c then pure (false, s2) else Except.ok (true, s3)) : Except String (Bool × Sre.Seen)) = .ok (unsA c, seen') := by
  have e0 : (decide (c < 256) && (codeA.getD (i + 1 + (1 + c / 32)) 0).testBit (c % 32)) = (decide (c < 256) && (wordA (c / 32)).testBit (c % 32)) := by
    by_cases hc : c < 256
    · rw [hw _ (by omega)]
    · simp [hc]
  have ec : Sre.category 4 c = .ok (Sre.isWord c) := by
    show (Except.ok (Sre.isWord c) : Except String Bool).map (· != false) = _
    cases Sre.isWord c <;> rfl
  rw [e0, ec]
  unfold unsA
  cases (decide (c < 256) && (wordA (c / 32)).testBit (c % 32)) <;> cases Sre.isWord c <;> exact ⟨_, rfl⟩
theorem setA : SetCode codeA unsA := by
  have hw5 : ∀ k, k < 8 → codeA.getD (5 + 1 + (1 + k)) 0 = wordA k := by decide
  have hw20 : ∀ k, k < 8 → codeA.getD (20 + 1 + (1 + k)) 0 = wordA k := by decide
  exact ⟨rfl, rfl, rfl, rfl, rfl, rfl, rfl, rfl, fun c seen => inSetA 5 c _ _ _ hw5, fun c seen => inSetA 20 c _ _ _ hw20⟩
end Mine
end
section
open PySem PySem.W PySem.W.X PyProof.Rows PySem.Calls
set_option Elab.async false
set_option maxRecDepth 100000
set_option maxHeartbeats 1000000
namespace Mine
variable {κ : Cx} {h : Heap} {n : Nat} {t : Tx} {tj ta tl : Tab} {lo : Prop} {V : Addr → Prop} {s₀ : Shared} {Q : Flow → Shared → Prop} {f L : Addr} {pm doc : Value}
structure LawTop (κ : Cx) (t : Tx) (tj ta : Tab) (h : Heap) : Prop where
  sh : ShTop κ tj h unsA
  ct : CmpTop κ t h
  cmp : ∃ f pm doc, κ.mg "cmp_to_key" = some (.ref f) ∧ FnAt h f (fAt 0 pm (.ref t.ck) doc)
  red : RedTop κ h
  laid : ∃ f pm doc, κ.mg "_law_laid" = some (.ref f) ∧ FnAt h f (fAt 9 pm (.ref ta.c) doc)
  word : Df κ h 4 "_law_word"
  bare : Df κ h 5 "_law_bare"
  part : Df κ h 6 "_law_part"
  reck : Df κ h 7 "_law_reckoned"
  ords : Df κ h 8 "_law_orders"
  p257 : Df κ h 1 "parse257"
  len : Blt κ "len" (.builtin "len")
  range : Blt κ "range" (.type "range")
  sum : Blt κ "sum" (.builtin "sum")
  enum : Blt κ "enumerate" (.type "enumerate")
  zip : Blt κ "zip" (.type "zip")
  sorted : Blt κ "sorted" (.builtin "sorted")
  chr : Blt κ "chr" (.builtin "chr")
theorem CmpTop.ext {h' : Heap} (x : CmpTop κ t h) (k : Ext κ.T h h') : CmpTop κ t h' :=
  ⟨x.bm.ext k, by obtain ⟨mc, a, e⟩ := x.pk; exact ⟨mc, ns_ext k a, e⟩, by obtain ⟨y, o, a, b⟩ := x.n0; exact ⟨y, by
    rcases k y o (fun f => f) b with e | ⟨_, _, _, _, e⟩
    · exact ⟨o, a, e⟩
    · exact ⟨_, a, e⟩⟩, x.sm, x.mo, x.bo, x.bc, x.nm⟩
theorem LawTop.ext {h' : Heap} (x : LawTop κ t tj ta h) (k : Ext κ.T h h') : LawTop κ t tj ta h' :=
  ⟨x.sh.ext k, x.ct.ext k, x.cmp.elim fun f y => y.elim fun p z => z.elim fun d w => ⟨f, p, d, w.1, w.2.ext k⟩, x.red.ext k, x.laid.elim fun f y => y.elim fun p z => z.elim fun d w => ⟨f, p, d, w.1, w.2.ext k⟩, x.word.ext k, x.bare.ext k, x.part.ext k, x.reck.ext k, x.ords.ext k, x.p257.ext k, x.len, x.range, x.sum, x.enum, x.zip, x.sorted, x.chr⟩
noncomputable abbrev lawEnv (f L : Addr) (tl : Tab) (pm doc : Value) : Env := callEnvC (fAt 10 pm (.ref tl.c) doc) L f
noncomputable def bases : List Int := [41, 3, 21, 4]
noncomputable def cellI (ns : List Int) (i : Nat) : Int := bases.getD i 0 + (pickNums (ns.take 60) (some i) none (some 4)).sum
noncomputable def cellsI (ns : List Int) : List Int := (List.range 4).map (cellI ns)
noncomputable def wordsL (ns : List Int) : List (List Nat) := (cellsI ns).map wordL
theorem ev_lcut_nums {env : Env} {value u : Expr} {p pos : Pos} {ns : List Int} {j : Nat} (a : Ev κ n env h value (Is (.list (nums ns)))) (c : Ev κ n env h u (Is (.int j))) (hz : (nums ns).length ≤ sizeLine) : Ev κ n env h (.Subscript value (.Slice none (some u) none p) pos) (Is (.list (nums (ns.take j)))) := by
  have := ev_lcut_to (p := p) (pos := pos) a c hz
  rw [show (nums ns).take j = nums (ns.take j) by simp [nums]] at this
  exact this
theorem nums_at {ns : List Int} {i : Nat} {d : Da} (e : (nums ns)[i]? = some d) : ∃ c, ns[i]? = some c ∧ d = .int c := by
  simp only [List.getElem?_map, Option.map_eq_some_iff] at e
  obtain ⟨c, h1, h2⟩ := e
  exact ⟨c, h1, h2.symm⟩
theorem strs_at {ls : List (List Nat)} {i : Nat} {d : Da} (e : (ls.map strD)[i]? = some d) : ∃ l, ls[i]? = some l ∧ d = strD l := by
  simp only [List.getElem?_map, Option.map_eq_some_iff] at e
  obtain ⟨c, h1, h2⟩ := e
  exact ⟨c, h1, h2.symm⟩
noncomputable def onI (g : Int → Da) : Da → Da
  | .int i => g i
  | d => d
theorem onI_map (g : Int → Da) (ns : List Int) : (nums ns).map (onI g) = ns.map g := by
  unfold nums; rw [List.map_map]; rfl
noncomputable def onT (g : List Nat → Da) : Da → Da
  | .str x => g x.cps.toList
  | d => d
theorem onT_tx (g : List Nat → Da) (l : List Nat) : onT g (strD l) = g l := by
  show g (tx l).cps.toList = _
  simp [tx]
theorem onT_map (g : List Nat → Da) (ls : List (List Nat)) : (ls.map strD).map (onT g) = ls.map g := by
  rw [List.map_map]
  exact List.map_congr_left fun l _ => onT_tx g l
theorem law_a {ns : List Int} (T : LawTop κ t tj ta h) (hz : ns.length ≤ 63)
    (k : Ex κ (n + 7) h V s₀ (lawEnv f L tl pm doc) [("words", .list ((wordsL ns).map strD))] ((dAt 10).body.drop 3) Q) :
    Ex κ (n + 7) h V s₀ (lawEnv f L tl pm doc) [("script", .list (nums ns))] (dAt 10).body Q := by
  have hs : sizeLine = 16777216 := rfl
  refine ex_assign' (fun h' k F => ev_lcut_nums (j := 60) (ev_loc F rfl) ev_int (by simp; omega)) ?_
  refine ex_of (d := .list (nums (cellsI ns))) (fun h' k F => ?_) ?_
  · have e : nums (cellsI ns) = (List.range bases.length).map fun i => .int (cellI ns i) := by simp [cellsI, bases, nums]
    rw [e]
    refine core_map2 (f := fun i => .int (cellI ns i)) (src_enum (ns := bases) F T.enum (ev_list (evl_is ev_int (evl_is ev_int (evl_is ev_int (evl_is ev_int evl_is_nil)))) (by decide))) (by decide) rfl (clB_one rfl (by exact fun z => by cases z)) ?_
    intro C i h' k hi F'
    exact ev_add_int (ev_loc F' rfl) (ev_call_b (F'.blt T.sum) (evl_one (ev_lcut_step (i := (i : Int)) (k := 4) (ev_loc F' rfl) (ev_loc F' rfl) ev_int (by decide) (by simp; omega)) Is.per) fun_sum)
  refine ex_assign' (d := .list ((wordsL ns).map strD)) (fun h' k F => ?_) (ex_weak (δ' := [("words", .list ((wordsL ns).map strD))]) ⟨rfl, trivial⟩ k)
  have e : (wordsL ns).map strD = (nums (cellsI ns)).map (onI fun c => strD (wordL c)) := by rw [onI_map]; unfold wordsL; rw [List.map_map]; rfl
  rw [e]
  refine evd_of F (core_map (src_list (ev_loc F rfl)) (by simp [cellsI, hs]) rfl clB_nil fun C i d h' k' ed F' => ?_)
  obtain ⟨c, _, rfl⟩ := nums_at ed
  exact ev_df F' (T.word.ext (k.trans k')) (evl_d (ev_loc F' rfl)) fun f pm cd doc fa => word_ok F'.base fa T.chr T.range
structure WsOk (ws : List (List Nat)) : Prop where
  len : ws.length = 4
  small : ∀ w ∈ ws, w.length ≤ 6
  ok : ∀ w ∈ ws, w.all okC = true
theorem signsL_ok (c : Int) : ∀ x ∈ signsL c, x.all okC = true := fun x hx => by
  have hb : (0 : Int) < 1114112 := by decide
  have h1 := fmod_hi (c.fdiv 512) hb
  have h2 := fmod_lo (c.fdiv 512) hb
  unfold signsL at hx
  simp only [List.mem_cons, List.not_mem_nil, or_false] at hx
  rcases hx with rfl | rfl | rfl | rfl | rfl | rfl | rfl | rfl
  · decide
  · decide
  · decide
  · decide
  · decide
  · decide
  · decide
  · simp only [List.all_cons, List.all_nil, Bool.and_true, okC, decide_eq_true_eq]; omega
theorem wordsOk (ns : List Int) : WsOk (wordsL ns) := by
  refine ⟨by simp [wordsL, cellsI], fun w hw => ?_, fun w hw => ?_⟩
  · obtain ⟨c, _, rfl⟩ := List.mem_map.mp hw
    exact wordL_le c
  · obtain ⟨c, _, rfl⟩ := List.mem_map.mp hw
    refine List.all_eq_true.mpr fun a ha => ?_
    obtain ⟨l, hl, hal⟩ := List.mem_flatten.mp ha
    obtain ⟨p, _, rfl⟩ := List.mem_map.mp hl
    exact List.all_eq_true.mp (signsL_ok c _ (List.mem_of_getElem? (signL_at c p))) a hal
end Mine
end
section
open PySem PySem.W PySem.W.X PyProof.Rows PySem.Calls
set_option Elab.async false
set_option maxRecDepth 100000
set_option maxHeartbeats 1000000
namespace Mine
variable {κ : Cx} {h : Heap} {n : Nat} {t : Tx} {tj ta tl : Tab} {lo : Prop} {V : Addr → Prop} {s₀ : Shared} {Q : Flow → Shared → Prop} {f L : Addr} {pm doc : Value}
noncomputable def five : List Nat := [39, 34, 39, 34, 39]
noncomputable def dueL (w : List Nat) : List Nat := 39 :: (sub1 39 five w ++ [39])
noncomputable def quoL (w : List Nat) : List Nat := quo unsA w
theorem safe_low : ∀ c, c < 256 → unsA c = !safeL.contains c := by decide +kernel
theorem uns_safe (c : Nat) : unsA c = !safeL.contains c := by
  by_cases hc : c < 256
  · exact safe_low c hc
  · have h1 : safeL.contains c = false := by
      have : ∀ x ∈ safeL, x < 256 := by decide
      cases e : safeL.contains c with
      | false => rfl
      | true => exact absurd (this c (List.contains_iff_mem.mp e)) hc
    rw [h1]
    unfold unsA
    rw [decide_eq_false hc]
    have h2 : Sre.isWord c = false := by
      unfold Sre.isWord Sre.isDigit
      simp only [Bool.or_eq_false_iff, Bool.and_eq_false_iff, decide_eq_false_iff_not, beq_eq_false_iff_ne, ne_eq]
      omega
    rw [h2]; rfl
theorem quo_due (w : List Nat) : quoL w = if bareL w then w else dueL w := by
  unfold quoL quo bareL
  cases w with
  | nil => rfl
  | cons a r =>
    have e : (a :: r).any unsA = !(a :: r).all fun c => safeL.contains c := by
      rw [List.any_eq_not_all_not]
      congr 1
      exact congrArg (List.all (a :: r)) (funext fun c => by rw [uns_safe, Bool.not_not])
    rw [if_neg (by simp), e]
    simp only [List.isEmpty_cons, Bool.not_false, Bool.true_and]
    cases (a :: r).all fun c => safeL.contains c <;> rfl
theorem quo_len (w : List Nat) : (quoL w).length ≤ 5 * w.length + 2 := by
  rw [quo_due]
  have : (sub1 39 five w).length ≤ 5 * w.length := sub1_le 39 five (by decide) w
  split
  · omega
  · unfold dueL; simp only [List.length_cons, List.length_append, List.length_nil]; omega
theorem okC_sub {w : List Nat} (h : w.all okC = true) : (sub1 39 five w).all okC = true := by
  refine List.all_eq_true.mpr fun a ha => ?_
  obtain ⟨b, hb, hab⟩ := List.mem_flatMap.mp ha
  split at hab
  · exact List.all_eq_true.mp (by decide : five.all okC = true) a hab
  · rw [List.mem_singleton.mp hab]; exact List.all_eq_true.mp h b hb
theorem quo_ok {w : List Nat} (h : w.all okC = true) : (quoL w).all okC = true := by
  rw [quo_due]
  split
  · exact h
  · unfold dueL
    rw [List.all_cons, List.all_append, okC_sub h]; rfl
theorem law_b {ws : List (List Nat)} (T : LawTop κ t tj ta h) (W : WsOk ws)
    (k : Ex κ (n + 7) h V s₀ (lawEnv f L tl pm doc) [("parts", .list (ws.map fun w => partD (partL w))), ("pieces", .list ((ws.map quoL).map strD)), ("words", .list (ws.map strD))] ((dAt 10).body.drop 7) Q) :
    Ex κ (n + 7) h V s₀ (lawEnv f L tl pm doc) [("words", .list (ws.map strD))] ((dAt 10).body.drop 3) Q := by
  have hs : sizeLine = 16777216 := rfl
  have hw4 := W.len
  refine ex_assign' (d := .list ((ws.map quoL).map strD)) (fun h' k F => ?_) ?_
  · have e : (ws.map quoL).map strD = (ws.map strD).map (onT fun w => strD (quoL w)) := by rw [onT_map, List.map_map]; rfl
    rw [e]
    refine evd_of F (core_map (src_list (ev_loc F rfl)) (by simp; omega) rfl clB_nil fun C i d h' k' ed F' => ?_)
    obtain ⟨w, hw, rfl⟩ := strs_at ed
    rw [onT_tx]
    obtain ⟨S, code, gs, hsr, H⟩ := (T.sh.ext (k.trans k')).S
    have := W.small w (List.mem_of_getElem? hw)
    exact ev_df F' (T.sh.q.ext (k.trans k')) (evl_d (ev_loc F' rfl)) fun f pm cd doc fa => quote_ok F'.base fa gs hsr H (by omega)
  refine ex_of (d := .list ((ws.map dueL).map strD)) (fun h' k F => ?_) ?_
  · have e : (ws.map dueL).map strD = (ws.map strD).map (onT fun w => strD (dueL w)) := by rw [onT_map, List.map_map]; rfl
    rw [e]
    refine core_map (src_list (ev_loc F rfl)) (by simp; omega) rfl clB_nil fun C i d h' k' ed F' => ?_
    obtain ⟨w, hw, rfl⟩ := strs_at ed
    rw [onT_tx]
    have hw6 := W.small w (List.mem_of_getElem? hw)
    have hsub : (sub1 39 five w).length ≤ 5 * w.length := sub1_le 39 five (by decide) w
    have h5 : five.length = 5 := rfl
    have e1 : strD (dueL w) = .str (tx [39] ++ Txt.join (tx []) ((w.map fun a => if a = 39 then five else [a]).map tx) ++ tx [39]) := by
      rw [join_tx, joinL_nil, tx_add, tx_add]
      unfold strD dueL sub1
      rw [List.flatMap_def]; rfl
    have hsum : ∀ l : List Nat, ((l.map fun a => if a = 39 then five else [a]).map List.length).sum ≤ 5 * l.length := fun l => by
      induction l with
      | nil => simp
      | cons a r ih =>
        simp only [List.map_cons, List.sum_cons, List.length_cons]
        split <;> simp only [h5, List.length_singleton] <;> omega
    have hsw := hsum w
    have hjl : (joinL [] (w.map fun a => if a = 39 then five else [a])).length ≤ 5 * w.length := by
      rw [joinL_nil, List.length_flatten]; exact hsw
    rw [e1]
    refine ev_add_str (ev_add_str (ev_str' litQuote) (ev_join (ev_str' litNo) ?_ (joinOk_tx (by simp only [List.length_nil]; omega))) ?_) (ev_str' litQuote) ?_
    · have e2 : ((w.map fun a => if a = 39 then five else [a]).map tx).map Da.str = (chars w).map (onT fun l => strD (if l = [39] then five else l)) := by
        unfold chars
        rw [List.map_map, List.map_map, List.map_map]
        refine List.map_congr_left fun a _ => ?_
        show Da.str (tx _) = onT _ (strD [a])
        rw [onT_tx]
        unfold strD
        show Da.str (tx (if a = 39 then five else [a])) = _
        by_cases ha : a = 39
        · rw [if_pos ha, if_pos (by rw [ha])]
        · rw [if_neg ha, if_neg (by simpa using ha)]
      rw [e2]
      refine evd_of F' (core_map (src_str (ev_loc F' rfl)) (by simp [chars]; omega) rfl clB_nil fun C2 j d2 h2 k2 ed2 F2 => ?_)
      obtain ⟨a, _, rfl⟩ := chars_at ed2
      show Ev κ _ _ h2 _ (Is (onT _ (strD [a])))
      rw [onT_tx]
      refine ev_ifexp (b := decide (a = 39)) (evb_eq_str (ev_loc F2 rfl) ev_str (beq_one _ _ litQuote)) (fun hb => ?_) fun hb => ?_
      · have ha : a = 39 := by simpa using hb
        rw [ha, if_pos rfl]
        exact ev_str' litFive
      · have ha : a ≠ 39 := by simpa using hb
        rw [if_neg (by simpa using ha)]
        exact ev_loc F2 rfl
    · rw [join_tx, tx_length, tx_length]; simp only [List.length_singleton]; omega
    · rw [join_tx, tx_add, tx_length, tx_length]; simp only [List.length_singleton, List.length_append]; omega
  have hall : ∀ w ∈ ws, PyData.strOk (tx (quoL w)) = true := fun w hw => by rw [strOk_tx]; exact quo_ok (W.ok w hw)
  have sh : Sh 1 (.list ((ws.map quoL).map strD)) := .list (by
    rw [List.map_map]
    exact Shs.map fun w hw => .str (hall w hw))
  refine ex_skip (fun h' k F => evb_ne_same (k := 1) (ev_loc F rfl) (evd_of F (core_map2 (f := fun i => strD (quoL (ws.getD i []))) (src_zip (xs := ws.map tx) (ys := (ws.map dueL).map tx) F T.zip ?_ ?_ (by simp)) (by simp; omega) rfl clB_nil fun C i h'' k' hi F' => ?_)) sh ?_ (by decide)) ?_
  · have : (ws.map tx).map Da.str = ws.map strD := by rw [List.map_map]; rfl
    rw [this]; exact ev_loc F rfl
  · have : ((ws.map dueL).map tx).map Da.str = (ws.map dueL).map strD := by rw [List.map_map]; rfl
    rw [this]; exact ev_loc F rfl
  · rw [List.length_map] at hi
    have ei : ws.getD i [] = ws[i] := by rw [List.getD_eq_getElem?_getD, List.getElem?_eq_getElem hi]; rfl
    have hmem : ws[i] ∈ ws := List.getElem_mem hi
    have hp1 : (zipP (ws.map tx) ((ws.map dueL).map tx) i).1 = strD ws[i] := by
      show Da.str ((ws.map tx).getD i "") = _
      rw [List.getD_eq_getElem?_getD, List.getElem?_map, List.getElem?_eq_getElem hi]; rfl
    have hp2 : (zipP (ws.map tx) ((ws.map dueL).map tx) i).2 = strD (dueL ws[i]) := by
      show Da.str (((ws.map dueL).map tx).getD i "") = _
      rw [List.getD_eq_getElem?_getD, List.getElem?_map, List.getElem?_map, List.getElem?_eq_getElem hi]; rfl
    rw [hp1, hp2] at F'
    show Ev κ _ _ h'' _ (Is (strD (quoL (ws.getD i []))))
    rw [ei, quo_due]
    refine ev_ifexp (b := bareL ws[i]) (evb_of (ev_df F' (T.bare.ext (k.trans k')) (evl_d (ev_loc F' rfl)) fun f p c d fb => bare_ok F'.base fb (by have := W.small _ hmem; omega) (W.ok _ hmem))) (fun hb => ?_) fun hb => ?_
    · rw [hb, if_pos rfl]; exact ev_loc F' rfl
    · rw [hb, if_neg (by simp)]; exact ev_loc F' rfl
  · rw [List.length_map]
    congr 1
    refine List.ext_getElem (by simp) fun i h1 h2 => ?_
    simp only [List.length_map] at h1
    simp [List.getD_eq_getElem?_getD, h1]
  refine ex_assign' (d := .list (ws.map fun w => partD (partL w))) (fun h' k F => ?_) (ex_weak (δ' := [("parts", .list (ws.map fun w => partD (partL w))), ("pieces", .list ((ws.map quoL).map strD)), ("words", .list (ws.map strD))]) ⟨rfl, rfl, rfl, trivial⟩ k)
  rw [← onT_map (fun w => partD (partL w))]
  refine evd_of F (core_map (src_list (ev_loc F rfl)) (by simp; omega) rfl clB_nil fun C i d h' k' ed F' => ?_)
  obtain ⟨w, hw, rfl⟩ := strs_at ed
  rw [onT_tx]
  have hm := List.mem_of_getElem? hw
  exact ev_df (n := n + 7) F' (T.part.ext (k.trans k')) (evl_d (ev_loc F' rfl)) fun f pm cd doc fa => part_ok (n := n + 4) F'.base fa (T.bare.ext (k.trans k')) (W.small w hm) (W.ok w hm)
end Mine
end
section
open PySem PySem.W PySem.W.X PyProof.Rows PySem.Calls
set_option Elab.async false
set_option maxRecDepth 100000
set_option maxHeartbeats 1000000
namespace Mine
/-! ## what is told of a line -/
theorem told_free {l : List Nat} (r : List Nat) (h : ∀ a ∈ l, a ≠ 34) : told (l ++ r) = l ++ told r := by
  induction l with
  | nil => rfl
  | cons a l ih =>
    rw [List.cons_append, told_other _ (h a List.mem_cons_self), ih fun b hb => h b (List.mem_cons_of_mem _ hb)]; rfl
theorem told_run {c : Nat} (r : List Nat) (h : c ≠ 34) : ∀ (m run : Nat), run ≤ m → told (List.replicate run 34 ++ c :: r) = List.replicate (run / 2) 34 ++ (if run % 2 = 1 then [] else c :: told r)
  | _, 0, _ => by rw [if_neg (by decide)]; exact told_other r h
  | _, 1, _ => by
    rw [if_pos rfl]
    exact told_end _ (by simpa using h)
  | 0, run + 2, hm => by omega
  | 1, run + 2, hm => by omega
  | m + 2, run + 2, hm => by
    have e1 : List.replicate (run + 2) 34 ++ c :: r = 34 :: 34 :: (List.replicate run 34 ++ c :: r) := rfl
    rw [e1, told_pair, told_run r h m run (by omega), show (run + 2) / 2 = run / 2 + 1 from Nat.add_div_right run (by decide), show (run + 2) % 2 = run % 2 from Nat.add_mod_right run 2]
    rfl
theorem scan_told : ∀ (l : List Nat) (run : Nat) (acc rest : List Nat), ((l = [] ∧ run = 0) ∨ ∃ l', l = l' ++ [39]) →
    acc ++ told (List.replicate run 34 ++ (l ++ rest)) = (scan l run acc).1 ++ (if (scan l run acc).2 then told rest else []) := by
  intro l
  induction l with
  | nil =>
    intro run acc rest h
    rcases h with ⟨_, rfl⟩ | ⟨l', e⟩
    · rfl
    · cases l' <;> cases e
  | cons c r IH =>
    intro run acc rest h
    obtain ⟨l', e⟩ : ∃ l', c :: r = l' ++ [39] := by
      rcases h with ⟨e, _⟩ | h
      · cases e
      · exact h
    have tail : r = [] ∧ c = 39 ∨ ∃ l'', r = l'' ++ [39] := by
      cases l' with
      | nil => cases e; exact .inl ⟨rfl, rfl⟩
      | cons a l'' => cases e; exact .inr ⟨l'', rfl⟩
    by_cases hc : c = 34
    · subst hc
      have e1 : List.replicate run 34 ++ (34 :: r ++ rest) = List.replicate (run + 1) 34 ++ (r ++ rest) := by
        rw [List.replicate_succ']; simp
      rw [e1, IH (run + 1) acc rest (.inr (tail.resolve_left fun q => by cases q.2))]
      simp only [scan, if_true]
    · rw [List.cons_append, told_run _ hc run run (Nat.le_refl _)]
      simp only [scan, if_neg hc]
      by_cases ho : run % 2 = 1
      · rw [if_pos ho, if_pos ho]; simp
      · rw [if_neg ho, if_neg ho]
        have ih := IH 0 (acc ++ List.replicate (run / 2) 34 ++ [c]) rest (tail.imp (fun q => ⟨q.1, rfl⟩) id)
        rw [← ih]; simp
theorem segL_cons (a : Nat) (w : List Nat) : segL (a :: w) = if a = 39 then [] else a :: segL w := by
  unfold segL
  rw [List.takeWhile_cons]
  by_cases ha : a = 39
  · subst ha; rfl
  · rw [if_pos (by simpa using ha), if_neg ha]
theorem seg_free : ∀ w : List Nat, 39 ∉ segL w
  | [], h => by cases h
  | a :: w, h => by
    rw [segL_cons] at h
    split at h
    · cases h
    · rename_i ha
      exact (List.mem_cons.mp h).elim (fun q => ha q.symm) (seg_free w)
theorem seg_all : ∀ w : List Nat, 39 ∉ w → segL w = w
  | [], _ => rfl
  | a :: w, h => by
    have ha : a ≠ 39 := fun q => h (by rw [q]; exact List.mem_cons_self)
    rw [segL_cons, if_neg ha, seg_all w fun q => h (List.mem_cons_of_mem _ q)]
theorem seg_split : ∀ w : List Nat, 39 ∈ w → ∃ w2, w = segL w ++ 39 :: w2
  | [], h => by cases h
  | a :: w, h => by
    rw [segL_cons]
    by_cases ha : a = 39
    · exact ⟨w, by rw [if_pos ha, ha]; rfl⟩
    · obtain ⟨w2, e⟩ := seg_split w ((List.mem_cons.mp h).resolve_left fun q => ha q.symm)
      exact ⟨w2, by rw [if_neg ha, List.cons_append, ← e]⟩
theorem told_piece (w rest : List Nat) : told (quoL w ++ rest) = (partL w).1 ++ (if (partL w).2 then told rest else []) := by
  rw [quo_due]
  unfold partL
  cases hb : bareL w with
  | true =>
    simp only [if_true]
    refine told_free _ fun a ha q => ?_
    unfold bareL at hb
    have := List.all_eq_true.mp (Bool.and_eq_true_iff.mp hb).2 a ha
    rw [q] at this
    exact absurd this (by decide)
  | false =>
    simp only [Bool.false_eq_true, if_false]
    unfold dueL
    rw [List.cons_append, told_other _ (by decide)]
    by_cases h39 : 39 ∈ w
    · obtain ⟨w2, e⟩ := seg_split w h39
      have hseg := seg_free w
      have e1 : sub1 39 five w = segL w ++ [39] ++ (34 :: 39 :: 34 :: 39 :: sub1 39 five w2) := by
        conv => lhs; rw [e]
        rw [sub1_append, sub1_free _ _ _ hseg, sub1_cons, if_pos rfl]; simp [five]
      have key := scan_told (segL w ++ [39]) 0 [39] (34 :: 39 :: 34 :: 39 :: sub1 39 five w2 ++ [39] ++ rest) (.inr ⟨_, rfl⟩)
      have hR : told (34 :: 39 :: 34 :: 39 :: sub1 39 five w2 ++ [39] ++ rest) = [] := told_end _ (by simp)
      rw [hR] at key
      have h1 : w.contains 39 = true := List.contains_iff_mem.mpr h39
      rw [e1, h1]
      simp only [Bool.not_true, Bool.and_false, Bool.false_eq_true, if_false, List.append_nil]
      have key' : 39 :: told (segL w ++ [39] ++ (34 :: 39 :: 34 :: 39 :: sub1 39 five w2) ++ [39] ++ rest) = (scan (segL w ++ [39]) 0 [39]).1 := by
        have e2 : (if (scan (segL w ++ [39]) 0 [39]).2 = true then ([] : List Nat) else []) = [] := by split <;> rfl
        rw [e2, List.append_nil] at key
        simpa using key
      simpa using key'
    · have h1 : w.contains 39 = false := by
        cases q : w.contains 39 with
        | false => rfl
        | true => exact absurd (List.contains_iff_mem.mp q) h39
      have hseg := seg_all w h39
      rw [sub1_free _ _ _ h39, hseg, h1]
      have key := scan_told (w ++ [39]) 0 [39] rest (.inr ⟨_, rfl⟩)
      simpa using key
noncomputable def wd (ws : List (List Nat)) (p : Int) : List Nat := ws.getD p.toNat []
noncomputable def lineL (ws : List (List Nat)) (o : List Int) : List Nat := joinL [32] (o.map fun p => quoL (wd ws p))
noncomputable def reckL (ws : List (List Nat)) (o : List Int) : List Nat := joinL [32] (toldL (ws.map partL) o)
theorem prt_wd {ws : List (List Nat)} {p : Int} (h : p.toNat < ws.length) : prt (ws.map partL) p = partL (wd ws p) := by
  unfold prt wd
  rw [List.getD_eq_getElem?_getD, List.getD_eq_getElem?_getD, List.getElem?_map, List.getElem?_eq_getElem h]; rfl
theorem told_line {ws : List (List Nat)} {tl : List Nat} (ht : told tl = []) : ∀ o : List Int, o ≠ [] → (∀ p ∈ o, p.toNat < ws.length) → told (lineL ws o ++ tl) = reckL ws o
  | [], h, _ => absurd rfl h
  | [p], _, hp => by
    have e1 : toldL (ws.map partL) [p] = [(prt (ws.map partL) p).1] := by
      rw [toldL]; split <;> rfl
    unfold lineL reckL
    rw [e1, prt_wd (hp p List.mem_cons_self)]
    show told (quoL (wd ws p) ++ tl) = (partL (wd ws p)).1
    rw [told_piece, ht]; split <;> simp
  | p :: q :: r, _, hp => by
    have ih := told_line ht (q :: r) (by simp) fun x hx => hp x (List.mem_cons_of_mem _ hx)
    unfold lineL reckL at ih ⊢
    have e1 : joinL [32] ((p :: q :: r).map fun p => quoL (wd ws p)) = quoL (wd ws p) ++ (32 :: joinL [32] ((q :: r).map fun p => quoL (wd ws p))) := rfl
    rw [e1, toldL, prt_wd (hp p List.mem_cons_self), List.append_assoc, told_piece, List.cons_append, told_other _ (by decide), ih]
    cases (partL (wd ws p)).2 with
    | false => simp [joinL]
    | true =>
      simp only [if_true]
      rw [toldL]
      rfl
end Mine
end
section
open PySem PySem.W PySem.W.X PyProof.Rows PySem.Calls
set_option Elab.async false
set_option maxRecDepth 100000
set_option maxHeartbeats 1000000
namespace Mine
variable {κ : Cx} {h : Heap} {n : Nat} {t : Tx} {tj ta tl : Tab} {lo : Prop} {V : Addr → Prop} {s₀ : Shared} {Q : Flow → Shared → Prop} {f L : Addr} {pm doc : Value} {env : Env} {δ : Del}
theorem told_okC : ∀ (m : Nat) (l : List Nat), l.length ≤ m → l.all okC = true → (told l).all okC = true
  | _, [], _, _ => rfl
  | 0, _ :: _, h, _ => by simp at h
  | m + 1, c :: r, h, ho => by
    rw [List.all_cons, Bool.and_eq_true] at ho
    by_cases hc : c = 34
    · subst hc
      cases r with
      | nil => rw [told_end _ (by simp)]; rfl
      | cons d r' =>
        by_cases hd : d = 34
        · subst hd
          rw [told_pair, List.all_cons, told_okC m r' (by simp at h; omega) (by have := ho.2; rw [List.all_cons, Bool.and_eq_true] at this; exact this.2)]; rfl
        · rw [told_end _ (by simpa using hd)]; rfl
    · rw [told_other r hc, List.all_cons, ho.1, told_okC m r (by simpa using h) ho.2]; rfl
theorem joinL_okC (z : List Nat) (hz : z.all okC = true) : ∀ ls : List (List Nat), (∀ l ∈ ls, l.all okC = true) → (joinL z ls).all okC = true
  | [], _ => rfl
  | [a], h => h a List.mem_cons_self
  | a :: b :: r, h => by
    show (a ++ (z ++ joinL z (b :: r))).all okC = true
    rw [List.all_append, List.all_append, h a List.mem_cons_self, hz, joinL_okC z hz (b :: r) fun l hl => h l (List.mem_cons_of_mem _ hl)]; rfl
theorem wd_mem {ws : List (List Nat)} {p : Int} (h : p.toNat < ws.length) : wd ws p ∈ ws := by
  unfold wd
  rw [List.getD_eq_getElem?_getD, List.getElem?_eq_getElem h]
  exact List.getElem_mem h
theorem joinL_le (ls : List (List Nat)) (k : Nat) (h : ∀ l ∈ ls, l.length ≤ k) : (joinL [32] ls).length ≤ (k + 1) * ls.length := by
  refine Nat.le_trans (joinL_len _ _) ?_
  induction ls with
  | nil => simp
  | cons a r ih =>
    have h1 := h a List.mem_cons_self
    have h2 := ih fun l hl => h l (List.mem_cons_of_mem _ hl)
    simp only [List.map_cons, List.sum_cons, List.length_cons, List.length_nil, Nat.mul_add, Nat.mul_one] at h2 ⊢
    omega
theorem lit257q : (("257 \"" : Str)) = tx [50, 53, 55, 32, 34] := by decide +kernel
/-- _law_laid(e) -/
theorem ev_laid {p pos : Pos} {e : Expr} {ls : List (List Nat)} (F : Fd κ h env δ) (T : LawTop κ t tj ta h) (hT : κ.T = t.tb lo) (hgd : t.Good) (hta : ta ∈ t.tabs) (hqa : ta.q = qa1) (a : Ev κ (n + 3) env h e (Is (.list (ls.map strD)))) (hne : ls ≠ []) (h4 : ls.length ≤ 4) (hl : ∀ l ∈ ls, l.length ≤ 32)
    (hk : env.kindOf "_law_laid" = some .globalImplicit := by rfl) (he : ∀ pos, backTo pos (starEach [e] env) = (false, eval e env) :: backTo pos (starEach [] env) := by intro _; rfl) : Ev κ (n + 3) env h (.Call (.Name "_law_laid" p) [e] [] pos) (Is (strD (joinL [32] ls))) := by
  have hs : sizeLine = 16777216 := rfl
  obtain ⟨f, pm, doc, g, fa⟩ := T.laid
  obtain ⟨o, ho, hd⟩ := id fa.at_
  refine ev_call_f (F.glob g hk) ho hd (evl_d a he) (laid_ok F.base fa T.ct.bm T.red hT hgd hta hqa hne fun i => ?_) he (by decide)
  have := joinL_le (ls.take i) 32 fun l hl' => hl l (List.mem_of_mem_take hl')
  rw [List.length_take] at this
  have h2 : min i ls.length ≤ 4 := Nat.le_trans (Nat.min_le_right _ _) h4
  have h3 := Nat.mul_le_mul_left 33 h2
  omega
/-- parse257('257 "' + e) -/
theorem ev_told {p1 p2 p3 pos : Pos} {e : Expr} {l : List Nat} {k1 : Nat} (F : Fd κ h env δ) (T : LawTop κ t tj ta h) (a : Ev κ (n + 1) env h e (Is (strD l))) (hl : l.length ≤ 1000)
    (hk : env.kindOf "parse257" = some .globalImplicit := by rfl) (he : ∀ pos, backTo pos (starEach [.BinOp (.Constant (.str "257 \"") k1 p2) .Add e p3] env) = (false, eval (.BinOp (.Constant (.str "257 \"") k1 p2) .Add e p3) env) :: backTo pos (starEach [] env) := by intro _; rfl) :
    Ev κ (n + 1) env h (.Call (.Name "parse257" p1) [.BinOp (.Constant (.str "257 \"") k1 p2) .Add e p3] [] pos) (Is (strD (told l))) := by
  have hs : sizeLine = 16777216 := rfl
  have e1 : (tx (50 :: 53 :: 55 :: 32 :: 34 :: l) : Str) = tx [50, 53, 55, 32, 34] ++ tx l := by rw [tx_add]; rfl
  refine ev_df F T.p257 (evl_d (d := .str (tx (50 :: 53 :: 55 :: 32 :: 34 :: l))) ?_ he) (fun f p c d fa => parse_ok F.base fa T.len (by omega)) hk he
  rw [e1]
  exact ev_add_str (ev_str' lit257q) a (by rw [tx_length, tx_length]; simp only [List.length_cons, List.length_nil]; omega)
theorem ords4 : (∀ o ∈ ords 4, o.length = 4 ∧ ∀ p ∈ o, 0 ≤ p ∧ p < 4) ∧ (ords 4).length = 24 := by decide +kernel
noncomputable def two2 (a b : List Nat) : Int := if (partL a).2 then (partL a).1.length + 1 + (partL b).1.length else (partL a).1.length
theorem two2_eq (a b : List Nat) : ((told (joinL [32] [quoL a, quoL b])).length : Int) = two2 a b := by
  have e : joinL [32] [quoL a, quoL b] = quoL a ++ (32 :: (quoL b ++ [])) := by simp [joinL]
  rw [e, told_piece, told_other _ (by decide), told_piece]
  unfold two2
  cases (partL a).2 with
  | false => simp
  | true => cases (partL b).2 <;> simp [told] <;> omega
noncomputable def twoM (ws : List (List Nat)) : List (List Int) := ws.map fun a => ws.map fun b => two2 a b
theorem ps_small {ws : List (List Nat)} (W : WsOk ws) : ∀ l ∈ ws.map quoL, l.length ≤ 32 := fun l hl => by
  obtain ⟨w, hw, rfl⟩ := List.mem_map.mp hl
  have := quo_len w
  have := W.small w hw
  omega
theorem part_len (w : List Nat) : (partL w).1.length ≤ 5 * w.length + 2 := by
  have h1 := told_piece w []
  have h2 := told_le _ (quoL w) (Nat.le_refl _)
  have h3 := quo_len w
  have e : (if (partL w).2 = true then told [] else []) = [] := by split <;> rfl
  rw [e, List.append_nil, List.append_nil] at h1
  rw [h1] at h2
  omega
theorem lists_at {α : Type} {g : α → Da} {ls : List α} {i : Nat} {d : Da} (e : (ls.map g)[i]? = some d) : ∃ l, l ∈ ls ∧ d = g l := by
  simp only [List.getElem?_map, Option.map_eq_some_iff] at e
  obtain ⟨c, h1, h2⟩ := e
  exact ⟨c, List.mem_of_getElem? h1, h2.symm⟩
noncomputable def onL (g : List Int → Da) : Da → Da
  | .list l => g (l.filterMap fun d => match d with | .int i => some i | _ => none)
  | d => d
theorem onL_lst (g : List Int → Da) (r : List Int) : onL g (lst r) = g r := by
  show g ((nums r).filterMap _) = _
  congr 1
  induction r with
  | nil => rfl
  | cons a r ih => exact congrArg (a :: ·) ih
theorem onL_map (g : List Int → Da) (rs : List (List Int)) : (rs.map lst).map (onL g) = rs.map g := by
  rw [List.map_map]
  exact List.map_congr_left fun r _ => onL_lst g r
/-- [xs[place] for place in order] -/
theorem ev_picked {p1 p2 p3 p4 pos : Pos} {x : Str} {a : Addr} {o : List Int} {g : List Nat → List Nat} {ws : List (List Nat)} {scope : Scope} (F : Fd κ h env δ) (ho : ∀ p ∈ o, 0 ≤ p ∧ p < 4) (hw : ws.length = 4) (hol : o.length ≤ 4) {e : Expr}
    (b : Ev κ n env h e (Is (lst o))) (hx : δ.lookup x = some (.list ((ws.map g).map strD)))
    (hclos : closureFor scope env = pure [(x, a)]) (hcl : clB env [(x, a)]) (hl1 : ∀ C, liesB (compEnvC scope [(x, a)] C env) x = true) (hl2 : ∀ C, liesB (compEnvC scope [(x, a)] C env) "place" = true) (hxp : (x == ("place" : Str)) = false) (hxd : (x == ("__debug__" : Str)) = false)
    (hpl : scope.names.lookup ("place" : Str) = some .local := by rfl) (hol2 : onlyLocal scope "place" = true := by rfl) (h0 : δ.lookup (".0" : Str) = none := by rfl) (h1 : scope.names.lookup (".0" : Str) = some .local := by rfl) (hkind : scope.kind = .function := by rfl)
    (hs : ∀ v, foldedSetIterable e env v = pure v := by intro _; rfl) :
    Ev κ n env h (.ListComp (.Subscript (.Name x p1) (.Name "place" p2) p3) [⟨.Name "place" p4, e, [], 0⟩] scope pos) (Is (.list ((o.map fun p => g (wd ws p)).map strD))) := by
  have hs' : sizeLine = 16777216 := rfl
  have e1 : (o.map fun p => g (wd ws p)).map strD = (nums o).map (onI fun p => strD (g (wd ws p))) := by rw [onI_map, List.map_map]; rfl
  rw [e1]
  refine evd_of F (core_map (src_list b) (by rw [List.length_map]; omega) hclos hcl (fun C i d h' k ed F' => ?_) hpl hol2 h0 h1 hkind hs)
  obtain ⟨p, hp, rfl⟩ := nums_at ed
  obtain ⟨q0, q1⟩ := ho p (List.mem_of_getElem? hp)
  show Ev κ n _ h' _ (Is (strD (g (wd ws p))))
  refine ev_item (k := p) (ev_loc (d := .list ((ws.map g).map strD)) F' (by rw [List.lookup_cons, hxp]; exact hx) (hl1 C) hxd) (ev_loc F' rfl (hl2 C)) q0 (by omega) ?_
  have hlt : p.toNat < ws.length := by omega
  unfold wd
  rw [List.getElem?_map, List.getElem?_map, List.getD_eq_getElem?_getD, List.getElem?_eq_getElem hlt]; rfl
theorem law_c {ws : List (List Nat)} (T : LawTop κ t tj ta h) (W : WsOk ws) (hT : κ.T = t.tb lo) (hgd : t.Good) (hta : ta ∈ t.tabs) (hqa : ta.q = qa1)
    (k : Ex κ (n + 7) h V s₀ (lawEnv f L tl pm doc) [("two", .list ((twoM ws).map lst)), ("told", .list (((ords 4).map (reckL ws)).map strD)), ("parts", .list (ws.map fun w => partD (partL w))), ("pieces", .list ((ws.map quoL).map strD)), ("words", .list (ws.map strD))] ((dAt 10).body.drop 11) Q) :
    Ex κ (n + 7) h V s₀ (lawEnv f L tl pm doc) [("parts", .list (ws.map fun w => partD (partL w))), ("pieces", .list ((ws.map quoL).map strD)), ("words", .list (ws.map strD))] ((dAt 10).body.drop 7) Q := by
  have hs : sizeLine = 16777216 := rfl
  have hw4 := W.len
  have hps := ps_small W
  refine ex_assign' (d := .list ((ords 4).map lst)) (fun h' k F => ev_df F (T.ords.ext k) (evl_one (ev_call_t (F.blt T.range) (evl_one ev_int Is.per) fun_rangeV) rgV_per) fun f p c d fa => orders_ok (n := n + 6) F.base fa T.len T.range) ?_
  have hlt : ∀ {o}, o ∈ ords 4 → ∀ p ∈ o, p.toNat < ws.length := fun ho p hp => by
    have := (ords4.1 _ ho).2 p hp
    omega
  have hne : ∀ {o}, o ∈ ords 4 → o ≠ [] := fun ho q => by
    have := (ords4.1 _ ho).1
    rw [q] at this; cases this
  have hline : ∀ {o}, o ∈ ords 4 → told (lineL ws o) = reckL ws o := fun ho => by
    have := told_line (ws := ws) (tl := []) rfl _ (hne ho) (hlt ho)
    rwa [List.append_nil] at this
  have hlen : ∀ {o}, o ∈ ords 4 → (lineL ws o).length ≤ 132 := fun {o} ho => by
    have := joinL_le (o.map fun p => quoL (wd ws p)) 32 fun l hl => by
      obtain ⟨p, hp, rfl⟩ := List.mem_map.mp hl
      exact hps _ (List.mem_map_of_mem (wd_mem (hlt ho p hp)))
    rw [List.length_map, (ords4.1 _ ho).1] at this
    exact this
  refine ex_of (d := .list (((ords 4).map (reckL ws)).map strD)) (fun h' k F => ?_) ?_
  · have e : ((ords 4).map (reckL ws)).map strD = ((ords 4).map lst).map (onL fun o => strD (reckL ws o)) := by rw [onL_map, List.map_map]; rfl
    rw [e]
    refine core_map (src_list (ev_loc F rfl)) (by rw [List.length_map, ords4.2]; omega) rfl (clB_one rfl (by exact fun z => by cases z)) fun C i d h' k' ed F' => ?_
    obtain ⟨o, ho, rfl⟩ := lists_at ed
    rw [onL_lst, ← hline ho]
    have T' := T.ext (k.trans k')
    exact ev_told (n := n + 6) F' T' (ev_laid (n := n + 4) F' T' hT hgd hta hqa (ev_picked F' (ords4.1 o ho).2 hw4 (by rw [(ords4.1 o ho).1]; exact Nat.le_refl _) (ev_loc F' rfl) rfl rfl (clB_one rfl (by exact fun z => by cases z)) (fun _ => rfl) (fun _ => rfl) rfl rfl) (by
      intro q; exact hne ho (List.map_eq_nil_iff.mp q)) (by rw [List.length_map, (ords4.1 o ho).1]; exact Nat.le_refl _) fun l hl => by
      obtain ⟨p, hp, rfl⟩ := List.mem_map.mp hl
      exact hps _ (List.mem_map_of_mem (wd_mem (hlt ho p hp)))) (Nat.le_trans (hlen ho) (by decide))
  have hall : ∀ o ∈ ords 4, PyData.strOk (tx (reckL ws o)) = true := fun o ho => by
    rw [strOk_tx, ← hline ho]
    refine told_okC _ _ (Nat.le_refl _) (joinL_okC _ rfl _ fun l hl => ?_)
    obtain ⟨p, hp, rfl⟩ := List.mem_map.mp hl
    exact quo_ok (W.ok _ (wd_mem (hlt ho p hp)))
  have sh : Sh 1 (.list (((ords 4).map (reckL ws)).map strD)) := .list (by
    rw [List.map_map]
    exact Shs.map fun o ho => .str (hall o ho))
  refine ex_skip (fun h' k F => evb_ne_same (k := 1) (ev_loc F rfl) (evd_of F (core_map (f := onL fun o => strD (reckL ws o)) (src_list (ev_loc F rfl)) (by rw [List.length_map, ords4.2]; omega) rfl (clB_one rfl (by exact fun z => by cases z)) fun C i d h' k' ed F' => ?_)) sh (by rw [onL_map, List.map_map]; rfl) (by decide)) ?_
  · obtain ⟨o, ho, rfl⟩ := lists_at ed
    rw [onL_lst]
    refine ev_df F' (T.reck.ext (k.trans k')) (evl_is (d := lst o) (ev_loc F' rfl) (evl_d (d := .list ((ws.map partL).map partD)) (by rw [List.map_map]; exact ev_loc F' rfl))) fun f p c d fa => reckoned_ok (n := n + 6) F'.base fa (fun p hp => ?_) (by rw [(ords4.1 o ho).1]; decide) fun x hx => ?_
    · have := (ords4.1 o ho).2 p hp
      rw [List.length_map]
      exact ⟨this.1, by omega, by omega⟩
    · obtain ⟨w, hw, rfl⟩ := List.mem_map.mp hx
      have := part_len w
      have := W.small w hw
      omega
  refine ex_assign' (d := .list ((twoM ws).map lst)) (fun h' k F => ?_) (ex_weak (δ' := [("two", .list ((twoM ws).map lst)), ("told", .list (((ords 4).map (reckL ws)).map strD)), ("parts", .list (ws.map fun w => partD (partL w))), ("pieces", .list ((ws.map quoL).map strD)), ("words", .list (ws.map strD))]) ⟨rfl, rfl, rfl, rfl, rfl, trivial⟩ k)
  have e : (twoM ws).map lst = ((ws.map quoL).map strD).map (onT fun x => .list (((ws.map quoL).map strD).map (onT fun y => .int ((told (joinL [32] [x, y])).length : Nat)))) := by
    rw [onT_map]
    unfold twoM
    rw [List.map_map, List.map_map]
    refine List.map_congr_left fun a _ => ?_
    show lst _ = Da.list _
    rw [onT_map, List.map_map]
    unfold lst nums
    rw [List.map_map]
    congr 1
    exact List.map_congr_left fun b _ => by
      show Da.int (two2 a b) = Da.int _
      rw [← two2_eq]
  rw [e]
  refine evd_of F (core_mapC (src_list (ev_loc F rfl)) (by simp; omega) rfl (clB_one rfl (by exact fun z => by cases z)) fun C c i d h' k' ed F' => ?_)
  obtain ⟨x, hx, rfl⟩ := strs_at ed
  rw [onT_tx]
  refine evd_of F' (core_map (src_list (ev_loc F' rfl)) (by simp; omega) rfl (clB_one rfl (by exact fun z => by cases z)) fun C2 j d2 h2 k2 ed2 F2 => ?_)
  obtain ⟨y, hy, rfl⟩ := strs_at ed2
  rw [onT_tx]
  have T2 := T.ext ((k.trans k').trans k2)
  have hxl := hps x (List.mem_of_getElem? hx)
  have hyl := hps y (List.mem_of_getElem? hy)
  have hjl : (joinL [32] [x, y]).length ≤ 1000 := by
    have := joinL_le [x, y] 32 fun l hl => by
      simp only [List.mem_cons, List.not_mem_nil, or_false] at hl
      rcases hl with rfl | rfl
      · exact hxl
      · exact hyl
    simp only [List.length_cons, List.length_nil] at this
    omega
  have htl := told_le _ (joinL [32] [x, y]) (Nat.le_refl _)
  have z := fun_len_str (κ := κ) (n := n + 7) (h := h2) (x := tx (told (joinL [32] [x, y]))) (by rw [tx_length]; omega)
  rw [tx_length] at z
  refine ev_call_b (F2.blt T.len) (evl_one (ev_told (n := n + 6) F2 T2 (ev_laid (n := n + 4) (ls := [x, y]) F2 T2 hT hgd hta hqa (ev_list (evl_is (ev_loc F2 rfl) (evl_is (ev_loc F2 rfl) evl_is_nil)) (show 2 ≤ sizeLine by decide)) (by simp) (by simp) fun l hl => ?_) hjl) Is.per) z
  simp only [List.mem_cons, List.not_mem_nil, or_false] at hl
  rcases hl with rfl | rfl
  · exact hxl
  · exact hyl
end Mine
end
section
open PySem PySem.W PySem.W.X PyProof.Rows PySem.Calls
set_option Elab.async false
set_option maxRecDepth 100000
set_option maxHeartbeats 1000000
namespace Mine
/-! ## orders -/
theorem runP_congr {α : Type} {n : Nat} {lt lt' : Nat → Nat → Bool} (h : ∀ i j, i < n → j < n → lt i j = lt' i j) : ∀ t : KasT α, okT n t = true → runP lt t = runP lt' t
  | .ret _, _ => rfl
  | .ask i j k, ho => by
    unfold okT at ho
    simp only [Bool.and_eq_true, decide_eq_true_eq] at ho
    rw [runP, runP, h i j ho.1.1.1 ho.1.1.2]
    refine runP_congr h (k (lt' i j)) ?_
    cases lt' i j
    · exact ho.2
    · exact ho.1.2
theorem okT4 {n : Nat} (hn : n ≤ 4) : okT n (kas_sort n) = true ∨ n < 2 := by
  rcases n with _ | _ | _ | _ | _ | n
  · exact .inr (by decide)
  · exact .inr (by decide)
  · exact .inl (by decide +kernel)
  · exact .inl (by decide +kernel)
  · exact .inl (by decide +kernel)
  · omega
theorem sortP_congr {n : Nat} (hn : n ≤ 4) {lt lt' : Nat → Nat → Bool} (h : ∀ i j, i < n → j < n → lt i j = lt' i j) : sortP n lt = sortP n lt' := by
  unfold sortP
  split
  · rfl
  · rename_i h2
    rw [runP_congr h _ ((okT4 hn).resolve_right h2)]
/-- places by their ranks: 4 for the whole ones -/
noncomputable def wh4 (rs : List Nat) : List Nat := (List.range 4).filter fun i => rs.getD i 0 == 4
noncomputable def tn4 (rs : List Nat) : List Nat := (List.range 4).filter fun i => !(rs.getD i 0 == 4)
noncomputable def gtR (rs : List Nat) (i j : Nat) : Bool := decide (rs.getD j 0 < rs.getD i 0)
noncomputable def ltR (rs : List Nat) (i j : Nat) : Bool := decide (rs.getD i 0 < rs.getD j 0)
noncomputable def gtT (rs : List Nat) (i j : Nat) : Bool := gtR rs ((tn4 rs).getD i 0) ((tn4 rs).getD j 0)
noncomputable def ltT (rs : List Nat) (i j : Nat) : Bool := ltR rs ((tn4 rs).getD i 0) ((tn4 rs).getD j 0)
noncomputable def natI (l : List Nat) : List Int := l.map fun i : Nat => (i : Int)
noncomputable def pick (rs : List Nat) (l : List Nat) : List Nat := l.map fun i => (tn4 rs).getD i 0
noncomputable def upS (rs : List Nat) : List Nat := wh4 rs ++ pick rs (sortP (tn4 rs).length (gtT rs))
noncomputable def dnS (rs : List Nat) : List Nat := pick rs (sortP (tn4 rs).length (ltT rs)) ++ wh4 rs
noncomputable def okR (rs : List Nat) : Bool :=
  (sortP 4 (gtR rs) == upS rs) && (sortP 4 (ltR rs) == dnS rs) && (sortP (tn4 rs).length (gtT rs)).all (fun i => decide (i < (tn4 rs).length)) && (sortP (tn4 rs).length (ltT rs)).all (fun i => decide (i < (tn4 rs).length)) &&
    (ords 4).contains (natI (upS rs)) && (ords 4).contains (natI (dnS rs)) &&
    ((pick rs (sortP (tn4 rs).length (gtT rs))).head?.all fun x => (tn4 rs).contains x && (tn4 rs).all fun t => decide (rs.getD t 0 ≤ rs.getD x 0)) &&
    ((pick rs (sortP (tn4 rs).length (ltT rs))).head?.all fun x => (tn4 rs).contains x && (tn4 rs).all fun t => decide (rs.getD x 0 ≤ rs.getD t 0)) &&
    ((pick rs (sortP (tn4 rs).length (gtT rs))).isEmpty == (tn4 rs).isEmpty) && ((pick rs (sortP (tn4 rs).length (ltT rs))).isEmpty == (tn4 rs).isEmpty) && (sortP 4 (gtR rs)).all (fun i => decide (i < 4)) && (sortP 4 (ltR rs)).all (fun i => decide (i < 4))
set_option maxHeartbeats 8000000 in
theorem okR_all : ∀ a, a < 5 → ∀ b, b < 5 → ∀ c, c < 5 → ∀ d, d < 5 → okR [a, b, c, d] = true := by decide +kernel
/-! ## the ranks of four words -/
noncomputable def whl (ws : List (List Nat)) (i : Nat) : Bool := (partL (ws.getD i [])).2
noncomputable def lnl (ws : List (List Nat)) (i : Nat) : Nat := (partL (ws.getD i [])).1.length
/-- how far ahead -/
noncomputable def frk (ws : List (List Nat)) (i : Nat) : Nat := if whl ws i then 1000 else lnl ws i
noncomputable def grk (ws : List (List Nat)) (i : Nat) : Nat := (List.range 4).countP fun k => decide (frk ws k < frk ws i)
noncomputable def rkl (ws : List (List Nat)) : List Nat := (List.range 4).map fun i => if whl ws i then 4 else grk ws i
theorem countP_lt {p q : Nat → Bool} (h : ∀ x, p x = true → q x = true) {a : Nat} (ha : p a = false) (hb : q a = true) : ∀ l : List Nat, a ∈ l → l.countP p < l.countP q
  | [], hm => by cases hm
  | x :: l, hm => by
    have mono : l.countP p ≤ l.countP q := List.countP_mono_left fun y _ => h y
    rcases List.mem_cons.mp hm with rfl | hm
    · rw [List.countP_cons_of_neg (by simp [ha]), List.countP_cons_of_pos hb]; omega
    · have ih := countP_lt h ha hb l hm
      rw [List.countP_cons, List.countP_cons]
      cases hp : p x with
      | false => simp only [Bool.false_eq_true, if_false]; omega
      | true => rw [h x hp]; simp only [if_true]; omega
theorem grk_lt {ws : List (List Nat)} {i j : Nat} (hj : j < 4) : grk ws j < grk ws i ↔ frk ws j < frk ws i := by
  constructor
  · intro hlt
    refine Classical.byContradiction fun hn => ?_
    have : grk ws i ≤ grk ws j := List.countP_mono_left fun x _ hx => by
      simp only [decide_eq_true_eq] at hx ⊢; omega
    omega
  · intro hlt
    exact countP_lt (fun x hx => by simp only [decide_eq_true_eq] at hx ⊢; omega) (a := j) (by simp) (by simpa using hlt) _ (List.mem_range.mpr hj)
theorem grk_le (ws : List (List Nat)) {i : Nat} (hi : i < 4) : grk ws i < 4 := by
  have := countP_lt (p := fun k => decide (frk ws k < frk ws i)) (q := fun _ => true) (fun _ _ => rfl) (a := i) (by simp) rfl (List.range 4) (List.mem_range.mpr hi)
  have e : (List.range 4).countP (fun _ => true) = 4 := by decide
  rw [e] at this
  exact this
theorem rkl_at (ws : List (List Nat)) {i : Nat} (hi : i < 4) : (rkl ws).getD i 0 = if whl ws i then 4 else grk ws i := by
  unfold rkl
  rw [List.getD_eq_getElem?_getD, List.getElem?_map, List.getElem?_range hi]; rfl
theorem rkl_ok (ws : List (List Nat)) : okR (rkl ws) = true := by
  have h : ∀ i, i < 4 → (if whl ws i then 4 else grk ws i) < 5 := fun i hi => by
    have := grk_le ws hi
    split <;> omega
  exact okR_all _ (h 0 (by decide)) _ (h 1 (by decide)) _ (h 2 (by decide)) _ (h 3 (by decide))
theorem lnl_lt {ws : List (List Nat)} (W : WsOk ws) {i : Nat} (hi : i < 4) : lnl ws i < 1000 := by
  have hlt : i < ws.length := by rw [W.len]; exact hi
  have e : ws.getD i [] = ws[i] := by rw [List.getD_eq_getElem?_getD, List.getElem?_eq_getElem hlt]; rfl
  unfold lnl
  rw [e]
  have := part_len ws[i]
  have := W.small _ (List.getElem_mem hlt)
  omega
/-- ranks tell who is ahead -/
theorem rkl_lt {ws : List (List Nat)} (W : WsOk ws) {i j : Nat} (hi : i < 4) (hj : j < 4) : (rkl ws).getD j 0 < (rkl ws).getD i 0 ↔ frk ws j < frk ws i := by
  rw [rkl_at ws hi, rkl_at ws hj]
  have a := grk_le ws hi
  have b := grk_le ws hj
  have c := lnl_lt W hi
  have d := lnl_lt W hj
  have key := grk_lt (ws := ws) (i := i) hj
  unfold frk at key ⊢
  cases hwi : whl ws i <;> cases hwj : whl ws j <;> simp only [hwi, hwj, if_true, Bool.false_eq_true, if_false] at key ⊢
  · exact key
  · omega
  · omega
  · omega
noncomputable def cmpU (ws : List (List Nat)) (i j : Int) : Int := two2 (wd ws j) (wd ws i) - two2 (wd ws i) (wd ws j)
theorem cmpU_lt {ws : List (List Nat)} (W : WsOk ws) {i j : Nat} (hi : i < 4) (hj : j < 4) : decide (cmpU ws i j < 0) = gtR (rkl ws) i j := by
  have c := lnl_lt W hi
  have d := lnl_lt W hj
  have e1 : wd ws (i : Int) = ws.getD i [] := rfl
  have e2 : wd ws (j : Int) = ws.getD j [] := rfl
  unfold gtR
  refine decide_eq_decide.mpr ?_
  rw [rkl_lt W hi hj]
  unfold cmpU two2 frk
  rw [e1, e2]
  unfold lnl whl at *
  cases hwi : (partL (ws.getD i [])).2 <;> cases hwj : (partL (ws.getD j [])).2 <;> simp only [if_true, Bool.false_eq_true, if_false] <;> omega
end Mine
end
section
open PySem PySem.W PySem.W.X PyProof.Rows PySem.Calls
set_option Elab.async false
set_option maxRecDepth 100000
set_option maxHeartbeats 1000000
namespace Mine
/-! ## how much is told: the most, the least -/
noncomputable def wI (ws : List (List Nat)) (p : Int) : Bool := whl ws p.toNat
noncomputable def wt (ws : List (List Nat)) (p : Int) : Nat := lnl ws p.toNat + 1
noncomputable def vsum (ws : List (List Nat)) : List Int → Nat
  | [] => 0
  | p :: r => wt ws p + if wI ws p then vsum ws r else 0
theorem joinL_sum : ∀ ls : List (List Nat), ls ≠ [] → (joinL [32] ls).length + 1 = (ls.map fun l => l.length + 1).sum
  | [], h => absurd rfl h
  | [a], _ => by simp [joinL]
  | a :: b :: r, _ => by
    have := joinL_sum (b :: r) (by simp)
    have e : (joinL [32] (a :: b :: r)).length = a.length + (1 + (joinL [32] (b :: r)).length) := by
      show (a ++ ([32] ++ joinL [32] (b :: r))).length = _
      simp only [List.length_append, List.length_singleton]
    rw [e, List.map_cons, List.sum_cons, ← this]; omega
theorem toldL_sum {ws : List (List Nat)} : ∀ o : List Int, (∀ p ∈ o, p.toNat < ws.length) → ((toldL (ws.map partL) o).map fun l => l.length + 1).sum = vsum ws o
  | [], _ => rfl
  | p :: r, h => by
    rw [toldL, prt_wd (h p List.mem_cons_self), List.map_cons, List.sum_cons]
    show (partL (wd ws p)).1.length + 1 + _ = (partL (ws.getD p.toNat [])).1.length + 1 + (if (partL (ws.getD p.toNat [])).2 then vsum ws r else 0)
    have ih := toldL_sum r fun q hq => h q (List.mem_cons_of_mem _ hq)
    congr 1
    show ((if (partL (wd ws p)).2 = true then toldL (ws.map partL) r else []).map _).sum = (if (partL (wd ws p)).2 = true then vsum ws r else 0)
    split
    · exact ih
    · rfl
theorem reckL_sum {ws : List (List Nat)} {o : List Int} (ho : o ≠ []) (h : ∀ p ∈ o, p.toNat < ws.length) : (reckL ws o).length + 1 = vsum ws o := by
  unfold reckL
  rw [joinL_sum _ (by cases o with | nil => exact absurd rfl ho | cons p r => rw [toldL]; simp), toldL_sum o h]
theorem vsum_le {ws : List (List Nat)} {M : Nat} : ∀ o : List Int, (∀ p ∈ o, wI ws p = false → wt ws p ≤ M) → vsum ws o ≤ ((o.filter (wI ws)).map (wt ws)).sum + M
  | [], _ => Nat.zero_le _
  | p :: r, h => by
    have ih := vsum_le r fun q hq => h q (List.mem_cons_of_mem _ hq)
    have hp := h p List.mem_cons_self
    rw [vsum, List.filter_cons]
    cases e : wI ws p with
    | true => simp only [if_true, List.map_cons, List.sum_cons]; omega
    | false => have := hp e; simp only [Bool.false_eq_true, if_false]; omega
theorem vsum_ge {ws : List (List Nat)} {m : Nat} : ∀ o : List Int, (∃ p ∈ o, wI ws p = false) → (∀ p ∈ o, wI ws p = false → m ≤ wt ws p) → m ≤ vsum ws o
  | [], ⟨_, h, _⟩, _ => by cases h
  | p :: r, ⟨q, hq, hw⟩, h => by
    rw [vsum]
    cases e : wI ws p with
    | true =>
      have hqr : q ∈ r := (List.mem_cons.mp hq).resolve_left fun z => by rw [z, e] at hw; cases hw
      have ih := vsum_ge r ⟨q, hqr, hw⟩ fun x hx => h x (List.mem_cons_of_mem _ hx)
      simp only [if_true]; omega
    | false => have := h p List.mem_cons_self e; simp only [Bool.false_eq_true, if_false]; omega
theorem vsum_app {ws : List (List Nat)} (b : List Int) : ∀ a : List Int, (∀ p ∈ a, wI ws p = true) → vsum ws (a ++ b) = (a.map (wt ws)).sum + vsum ws b
  | [], _ => by simp
  | p :: r, h => by
    rw [List.cons_append, vsum, h p List.mem_cons_self, if_pos rfl, vsum_app b r fun q hq => h q (List.mem_cons_of_mem _ hq), List.map_cons, List.sum_cons]; omega
theorem sum_perm {l l' : List Nat} (h : l.Perm l') : l.sum = l'.sum := by
  induction h with
  | nil => rfl
  | cons x _ ih => rw [List.sum_cons, List.sum_cons, ih]
  | swap x y l => simp only [List.sum_cons]; omega
  | trans _ _ a b => exact a.trans b
theorem ords_perm : ∀ o ∈ ords 4, o.isPerm [0, 1, 2, 3] = true := by decide +kernel
theorem wsum_perm (ws : List (List Nat)) {o : List Int} (ho : o ∈ ords 4) : ((o.filter (wI ws)).map (wt ws)).sum = (([0, 1, 2, 3] : List Int).filter (wI ws) |>.map (wt ws)).sum :=
  sum_perm (((List.isPerm_iff.mp (ords_perm o ho)).filter _).map _)
theorem rk4 {ws : List (List Nat)} {i : Nat} (hi : i < 4) : ((rkl ws).getD i 0 == 4) = whl ws i := by
  rw [rkl_at ws hi]
  have := grk_le ws hi
  cases whl ws i with
  | true => rfl
  | false => simp only [Bool.false_eq_true, if_false, beq_eq_false_iff_ne, ne_eq]; omega
theorem wh_eq (ws : List (List Nat)) : natI (wh4 (rkl ws)) = ([0, 1, 2, 3] : List Int).filter (wI ws) := by
  have e : ([0, 1, 2, 3] : List Int) = natI (List.range 4) := rfl
  rw [e]
  unfold natI wh4
  rw [List.filter_map]
  congr 1
  refine List.filter_congr fun i hi => ?_
  rw [rk4 (List.mem_range.mp hi)]; rfl
theorem tn_mem {ws : List (List Nat)} {i : Nat} : i ∈ tn4 (rkl ws) ↔ i < 4 ∧ whl ws i = false := by
  unfold tn4
  rw [List.mem_filter, List.mem_range]
  constructor
  · rintro ⟨a, b⟩
    rw [rk4 a] at b
    exact ⟨a, by simpa using b⟩
  · rintro ⟨a, b⟩
    exact ⟨a, by rw [rk4 a, b]; rfl⟩
theorem rk_wt {ws : List (List Nat)} (W : WsOk ws) {i j : Nat} (hi : i ∈ tn4 (rkl ws)) (hj : j ∈ tn4 (rkl ws)) (h : (rkl ws).getD i 0 ≤ (rkl ws).getD j 0) : lnl ws i ≤ lnl ws j := by
  obtain ⟨a, b⟩ := tn_mem.mp hi
  obtain ⟨c, d⟩ := tn_mem.mp hj
  have := rkl_lt W (i := i) (j := j) a c
  unfold frk at this
  rw [b, d] at this
  simp only [Bool.false_eq_true, if_false] at this
  omega
structure Sorts (ws : List (List Nat)) : Prop where
  up : sortP 4 (gtR (rkl ws)) = upS (rkl ws)
  dn : sortP 4 (ltR (rkl ws)) = dnS (rkl ws)
  ut : ∀ i ∈ sortP (tn4 (rkl ws)).length (gtT (rkl ws)), i < (tn4 (rkl ws)).length
  dt : ∀ i ∈ sortP (tn4 (rkl ws)).length (ltT (rkl ws)), i < (tn4 (rkl ws)).length
  ou : natI (upS (rkl ws)) ∈ ords 4
  od : natI (dnS (rkl ws)) ∈ ords 4
  u4 : ∀ i ∈ upS (rkl ws), i < 4
  d4 : ∀ i ∈ dnS (rkl ws), i < 4
  most : ∀ o ∈ ords 4, (reckL ws o).length ≤ (reckL ws (natI (upS (rkl ws)))).length
  least : ∀ o ∈ ords 4, (reckL ws (natI (dnS (rkl ws)))).length ≤ (reckL ws o).length
theorem sorts {ws : List (List Nat)} (W : WsOk ws) : Sorts ws := by
  have h := rkl_ok ws
  unfold okR at h
  simp only [Bool.and_eq_true, beq_iff_eq, List.all_eq_true, decide_eq_true_eq, List.contains_iff_mem] at h
  obtain ⟨⟨⟨⟨⟨⟨⟨⟨⟨⟨⟨h1, h2⟩, h3⟩, h4⟩, h5⟩, h6⟩, h7⟩, h8⟩, h9⟩, h10⟩, h11⟩, h12⟩ := h
  have hin : ∀ {o}, o ∈ ords 4 → (∀ p ∈ o, p.toNat < ws.length) ∧ o ≠ [] := fun {o} ho => by
    obtain ⟨a, b⟩ := ords4.1 o ho
    refine ⟨fun p hp => by have := b p hp; rw [W.len]; omega, fun q => by rw [q] at a; cases a⟩
  have htorn : ∀ {o p}, o ∈ ords 4 → p ∈ o → wI ws p = false → p.toNat ∈ tn4 (rkl ws) := fun ho hp hw => by
    have := (ords4.1 _ ho).2 _ hp
    exact tn_mem.mpr ⟨by omega, hw⟩
  have hwh : ∀ p ∈ natI (wh4 (rkl ws)), wI ws p = true := fun p hp => by
    rw [wh_eq] at hp
    exact (List.mem_filter.mp hp).2
  have hall : ∀ {o}, o ∈ ords 4 → tn4 (rkl ws) = [] → ∀ p ∈ o, wI ws p = true := fun ho he p hp => by
    cases e : wI ws p with
    | true => rfl
    | false => have := htorn ho hp e; rw [he] at this; cases this
  have ex : ∀ {o}, o ∈ ords 4 → ∀ {x}, x ∈ tn4 (rkl ws) → ∃ p ∈ o, wI ws p = false := fun {o} ho {x} hx => by
    obtain ⟨a, b⟩ := tn_mem.mp hx
    have hm : (x : Int) ∈ ([0, 1, 2, 3] : List Int) := (show ∀ y < 4, ((y : Nat) : Int) ∈ ([0, 1, 2, 3] : List Int) by decide) x a
    exact ⟨x, (List.isPerm_iff.mp (ords_perm o ho)).mem_iff.mpr hm, b⟩
  refine ⟨h1, h2, h3, h4, h5, h6, fun i hi => h11 i (h1 ▸ hi), fun i hi => h12 i (h2 ▸ hi), fun o ho => ?_, fun o ho => ?_⟩
  · have a1 := reckL_sum (hin ho).2 (hin ho).1
    have a2 := reckL_sum (hin h5).2 (hin h5).1
    have a3 : vsum ws (natI (upS (rkl ws))) = ((([0, 1, 2, 3] : List Int).filter (wI ws)).map (wt ws)).sum + vsum ws (natI (pick (rkl ws) (sortP (tn4 (rkl ws)).length (gtT (rkl ws))))) := by
      have e : natI (upS (rkl ws)) = natI (wh4 (rkl ws)) ++ natI (pick (rkl ws) (sortP (tn4 (rkl ws)).length (gtT (rkl ws)))) := by unfold natI upS; rw [List.map_append]
      rw [e, vsum_app _ _ hwh, wh_eq]
    cases hp : pick (rkl ws) (sortP (tn4 (rkl ws)).length (gtT (rkl ws))) with
    | nil =>
      rw [hp] at h9 a3
      have he : tn4 (rkl ws) = [] := by simpa using h9.symm
      have := vsum_le (M := 0) o fun p hp hw => by rw [hall ho he p hp] at hw; cases hw
      rw [wsum_perm ws ho] at this
      rw [a3] at a2
      show _ ≤ _
      have z : vsum ws (natI []) = 0 := rfl
      omega
    | cons x r =>
      rw [hp] at h7 a3
      simp only [List.head?_cons, Option.all_some, Bool.and_eq_true, List.contains_iff_mem, List.all_eq_true, decide_eq_true_eq] at h7
      have hx := (tn_mem.mp h7.1).2
      have a4 : vsum ws (natI (x :: r)) = wt ws x := by
        show wt ws (x : Int) + (if wI ws (x : Int) then vsum ws (natI r) else 0) = _
        rw [show wI ws (x : Int) = false from hx]; rfl
      have := vsum_le (M := wt ws x) o fun p hp hw => by
        have ht := htorn ho hp hw
        have := rk_wt W ht h7.1 (h7.2 _ ht)
        unfold wt
        exact Nat.succ_le_succ this
      rw [wsum_perm ws ho] at this
      rw [a3, a4] at a2
      omega
  · have a1 := reckL_sum (hin ho).2 (hin ho).1
    have a2 := reckL_sum (hin h6).2 (hin h6).1
    have e : natI (dnS (rkl ws)) = natI (pick (rkl ws) (sortP (tn4 (rkl ws)).length (ltT (rkl ws)))) ++ natI (wh4 (rkl ws)) := by unfold natI dnS; rw [List.map_append]
    cases hp : pick (rkl ws) (sortP (tn4 (rkl ws)).length (ltT (rkl ws))) with
    | nil =>
      rw [hp] at h10
      have he : tn4 (rkl ws) = [] := by simpa using h10.symm
      have b1 : ∀ {o}, o ∈ ords 4 → vsum ws o = ((([0, 1, 2, 3] : List Int).filter (wI ws)).map (wt ws)).sum := fun {o} ho => by
        have z := vsum_app [] o (hall ho he)
        rw [List.append_nil] at z
        rw [z, ← wsum_perm ws ho, List.filter_eq_self.mpr (hall ho he)]; rfl
      have := b1 ho
      have := b1 h6
      omega
    | cons x r =>
      rw [hp] at h8 e
      simp only [List.head?_cons, Option.all_some, Bool.and_eq_true, List.contains_iff_mem, List.all_eq_true, decide_eq_true_eq] at h8
      have hx := (tn_mem.mp h8.1).2
      have a4 : vsum ws (natI (dnS (rkl ws))) = wt ws x := by
        rw [e]
        show wt ws (x : Int) + (if wI ws (x : Int) then vsum ws (natI r ++ natI (wh4 (rkl ws))) else 0) = _
        rw [show wI ws (x : Int) = false from hx]; rfl
      have := vsum_ge (m := wt ws x) o (ex ho h8.1) fun p hp hw => by
        have ht := htorn ho hp hw
        have := rk_wt W h8.1 ht (h8.2 _ ht)
        unfold wt
        exact Nat.succ_le_succ this
      rw [a4] at a2
      omega
end Mine
end
section
open PySem PySem.W PySem.W.X PyProof.Rows PySem.Calls
set_option Elab.async false
set_option maxRecDepth 100000
set_option maxHeartbeats 1000000
namespace Mine
variable {κ : Cx} {h : Heap} {n : Nat} {t : Tx} {tj ta tl : Tab} {lo : Prop} {V : Addr → Prop} {s₀ : Shared} {Q : Flow → Shared → Prop} {f L : Addr} {pm doc : Value} {env : Env} {δ : Del}
noncomputable def ql1 : Pos → Str := fun _ => "law.<locals>.<lambda>"
theorem mem_up {i : Int} (h : i ∈ upInts 4) : 0 ≤ i ∧ i < 4 := by
  unfold upInts at h
  simp only [List.mem_map, List.mem_range] at h
  refine Classical.byContradiction fun nay => ?_
  obtain ⟨a, ha, rfl⟩ := h
  refine nay ?_
  clear nay
  omega
theorem upInts_get {i : Nat} (h : i < 4) : (upInts 4).getD i 0 = (i : Int) := by
  unfold upInts
  rw [List.getD_eq_getElem?_getD, List.getElem?_map, List.getElem?_range h]; rfl
/-- two[x][y] -/
theorem ev_two {ws : List (List Nat)} {x y : Expr} {p q r : Pos} {i j : Int} (F : Fd κ h env δ) (hw : ws.length = 4) (h2 : δ.lookup ("two" : Str) = some (.list ((twoM ws).map lst))) (hx : Ev κ n env h x (Is (.int i))) (hy : Ev κ n env h y (Is (.int j))) (hi : 0 ≤ i ∧ i < 4) (hj : 0 ≤ j ∧ j < 4) (hl : liesB env "two" = true)
    (hs1 : ∀ o i, subscripted x false o i = operate [o, i] (getItem o i) := by intro _ _; with_unfolding_all rfl) (hs2 : ∀ o i, subscripted y false o i = operate [o, i] (getItem o i) := by intro _ _; with_unfolding_all rfl) :
    Ev κ n env h (.Subscript (.Subscript (.Name "two" p) x q) y r) (Is (.int (two2 (wd ws i) (wd ws j)))) := by
  have e : ∀ k : Int, 0 ≤ k ∧ k < 4 → ws[k.toNat]? = some (wd ws k) := fun k hk => by
    have hlt : k.toNat < ws.length := by omega
    unfold wd
    rw [List.getD_eq_getElem?_getD, List.getElem?_eq_getElem hlt]; rfl
  refine ev_item (k := j) (ds := nums (ws.map fun b => two2 (wd ws i) b)) (ev_item (k := i) (d := lst (ws.map fun b => two2 (wd ws i) b)) (ev_loc F h2 hl) hx hi.1 (by omega) ?_ hs1) hy hj.1 (by omega) ?_ hs2
  · unfold twoM
    rw [List.getElem?_map, List.getElem?_map, e i hi]; rfl
  · rw [List.getElem?_map, List.getElem?_map, e j hj]; rfl
/-- parts[x][k] -/
theorem ev_part {ws : List (List Nat)} {x : Expr} {p q r p2 : Pos} {k1 k : Nat} {i : Int} {d : Da} (F : Fd κ h env δ) (hw : ws.length = 4) (h2 : δ.lookup ("parts" : Str) = some (.list (ws.map fun w => partD (partL w)))) (hx : Ev κ n env h x (Is (.int i))) (hi : 0 ≤ i ∧ i < 4) (hd : ([strD (partL (wd ws i)).1, .bool (partL (wd ws i)).2] : List Da)[k]? = some d) (hk : k < 2) (hl : liesB env "parts" = true)
    (hs1 : ∀ o i, subscripted x false o i = operate [o, i] (getItem o i) := by intro _ _; with_unfolding_all rfl) :
    Ev κ n env h (.Subscript (.Subscript (.Name "parts" p) x q) (.Constant (.int (k : Int)) k1 p2) r) (Is d) := by
  have hlt : i.toNat < ws.length := by omega
  refine ev_item_t (k := (k : Int)) (ds := [strD (partL (wd ws i)).1, .bool (partL (wd ws i)).2]) (ev_item (k := i) (ev_loc F h2 hl) hx hi.1 (by omega) ?_ hs1) ev_int (by omega) (by omega) (by simpa using hd)
  unfold wd
  rw [List.getElem?_map, List.getD_eq_getElem?_getD, List.getElem?_eq_getElem hlt]; rfl
/-- cmp_to_key(lambda one, other: ..) -/
theorem ev_keyed {p pos : Pos} {lam : Expr} {cmp : Int → Int → Int} (F : Fd κ h env δ) (T : LawTop κ t tj ta h) (hT : κ.T = t.tb lo) (hgd : t.Good) (hkp : t.kpos = ⟨5, 4, 26, 23⟩) (hqk : t.qk = qkOf qk1) (a : Ev κ (n + 5) env h lam (LamN κ (n + 1) (CmpG (upInts 4) cmp)))
    (hk : env.kindOf "cmp_to_key" = some .globalImplicit := by rfl) (he : ∀ pos, backTo pos (starEach [lam] env) = (false, eval lam env) :: backTo pos (starEach [] env) := by intro _; rfl) :
    Ev κ (n + 5) env h (.Call (.Name "cmp_to_key" p) [lam] [] pos) (KeyK κ (n + 1) (upInts 4) cmp) := by
  refine Classical.byContradiction fun nay => ?_
  obtain ⟨fc, pc, dc, gc, fc0⟩ := T.cmp
  obtain ⟨o, ho, hd⟩ := id fc0.at_
  refine nay ?_
  clear nay
  exact ev_call_f (F.glob gc hk) ho hd (evl_one (P := LamP κ (n + 1) (upInts 4) cmp) (a.mono fun _ _ _ q => q.cmp) LamP.per he) (fun_cmpK fun v => cmp_ok (n := n + 2) F.base fc0 T.ct hT hgd hkp hqk) he (by decide)
theorem clB3 {env : Env} {δc : Del} {x : Str} {a : Addr} (h1 : env.cells.lookup x = some a) (h2 : env.kindOf x ≠ some .local) (h3 : (δc.lookup x).isSome = true) : ∀ z c, [(x, a)].lookup z = some c → env.cells.lookup z = some c ∧ env.kindOf z ≠ some .local ∧ (δc.lookup z).isSome = true := fun z c e => by
  rw [List.lookup_cons] at e
  split at e
  · rename_i q
    cases e
    rw [show z = x by simpa using q]
    exact ⟨h1, h2, h3⟩
  · cases e
noncomputable def onB (g : Int → Bool) : Da → Bool
  | .int i => g i
  | _ => false
theorem pick_filter (p : Nat → Bool) (g : Int → Bool) (h : ∀ i : Nat, i < 4 → g (i : Int) = p i) : (((upto 4).filter (onB g)).map id) = nums (natI ((List.range 4).filter p)) := by
  rw [List.map_id]
  unfold upto natI nums
  rw [List.filter_map, List.map_map]
  congr 1
  exact List.filter_congr fun i hi => h i (List.mem_range.mp hi)
theorem law_d1 {ws : List (List Nat)} (T : LawTop κ t tj ta h) (W : WsOk ws) (S : Sorts ws) (hT : κ.T = t.tb lo) (hgd : t.Good) (htl : tl ∈ t.tabs) (hql : tl.q = ql1) (hkp : t.kpos = ⟨5, 4, 26, 23⟩) (hqk : t.qk = qkOf qk1)
    (k : Ex κ (n + 7) h V s₀ (lawEnv f L tl pm doc) [("down", .list (nums (natI (dnS (rkl ws))))), ("up", .list (nums (natI (upS (rkl ws))))), ("two", .list ((twoM ws).map lst)), ("told", .list (((ords 4).map (reckL ws)).map strD)), ("parts", .list (ws.map fun w => partD (partL w))), ("pieces", .list ((ws.map quoL).map strD)), ("words", .list (ws.map strD))] ((dAt 10).body.drop 13) Q) :
    Ex κ (n + 7) h V s₀ (lawEnv f L tl pm doc) [("two", .list ((twoM ws).map lst)), ("told", .list (((ords 4).map (reckL ws)).map strD)), ("parts", .list (ws.map fun w => partD (partL w))), ("pieces", .list ((ws.map quoL).map strD)), ("words", .list (ws.map strD))] ((dAt 10).body.drop 11) Q := by
  have hs : sizeLine = 16777216 := rfl
  have hw4 := W.len
  have natI_up : ∀ {l : List Nat}, (∀ i ∈ l, i < 4) → (l.map fun i => (upInts 4).getD i 0) = natI l := fun h => List.map_congr_left fun i hi => upInts_get (h i hi)
  have hup : sortP 4 (ltK (upInts 4) (cmpU ws)) = upS (rkl ws) := by
    rw [← S.up]
    refine sortP_congr (Nat.le_refl _) fun i j hi hj => ?_
    unfold ltK
    rw [upInts_get hi, upInts_get hj]
    exact cmpU_lt W hi hj
  have hdn : sortP 4 (ltK (upInts 4) fun i j => cmpU ws j i) = dnS (rkl ws) := by
    rw [← S.dn]
    refine sortP_congr (Nat.le_refl _) fun i j hi hj => ?_
    unfold ltK
    rw [upInts_get hi, upInts_get hj]
    exact cmpU_lt W hj hi
  refine ex_assign' (d := .list (nums (natI (upS (rkl ws))))) (fun h' k F => ?_) ?_
  · have e1 : nums (natI (upS (rkl ws))) = nums ((sortP 4 (ltK (upInts 4) (cmpU ws))).map fun i => (upInts 4).getD i 0) := by rw [hup, natI_up S.u4]
    rw [e1]
    refine ev_sortedK (n := n + 3) (k := 4) (cmp := cmpU ws) F T.sorted (ev_call_t (F.blt T.range) (evl_one ev_int Is.per) fun_range)
      (ev_keyed (n := n + 2) F (T.ext k) hT hgd hkp hqk (ev_lamN (m := n + 2) (xs := ["one", "other"]) (δc := [("two", .list ((twoM ws).map lst))]) F (T.ct.bm.ext k) hT hgd htl (by intro p; rw [hql]; rfl) rfl rfl rfl rfl (clB3 rfl (by exact fun z => by cases z) rfl) ⟨rfl, trivial⟩ (fun as r zz => by obtain ⟨i, _, j, _, e, _⟩ := zz; exact by rw [e]; rfl) (fun ctv code pm doc vs hvs => ?_) (nd2 (d := .none) (d' := .none) rfl) fun C f ctv code pm doc h'' as r g k2 F2 => ?_))
      (by decide) (.inl (by decide +kernel)) (by rw [hup]; exact S.u4)
    · refine Classical.byContradiction fun nay => ?_
      obtain ⟨v, u, rfl⟩ := len2 hvs
      refine nay ?_
      clear nay
      rfl
    · refine Classical.byContradiction fun nay => ?_
      obtain ⟨i, hi, j, hj, rfl, rfl⟩ := g
      refine nay ?_
      clear nay
      exact ev_sub_int (ev_two F2 hw4 rfl (ev_loc F2 rfl) (ev_loc F2 rfl) (mem_up hj) (mem_up hi) rfl) (ev_two F2 hw4 rfl (ev_loc F2 rfl) (ev_loc F2 rfl) (mem_up hi) (mem_up hj) rfl)
  refine ex_assign' (d := .list (nums (natI (dnS (rkl ws))))) (fun h' k F => ?_) ?_
  · have e1 : nums (natI (dnS (rkl ws))) = nums ((sortP 4 (ltK (upInts 4) fun i j => cmpU ws j i)).map fun i => (upInts 4).getD i 0) := by rw [hdn, natI_up S.d4]
    rw [e1]
    refine ev_sortedK (n := n + 3) (k := 4) (cmp := fun i j => cmpU ws j i) F T.sorted (ev_call_t (F.blt T.range) (evl_one ev_int Is.per) fun_range)
      (ev_keyed (n := n + 2) F (T.ext k) hT hgd hkp hqk (ev_lamN (m := n + 2) (xs := ["one", "other"]) (δc := [("two", .list ((twoM ws).map lst))]) F (T.ct.bm.ext k) hT hgd htl (by intro p; rw [hql]; rfl) rfl rfl rfl rfl (clB3 rfl (by exact fun z => by cases z) rfl) ⟨rfl, trivial⟩ (fun as r zz => by obtain ⟨i, _, j, _, e, _⟩ := zz; exact by rw [e]; rfl) (fun ctv code pm doc vs hvs => ?_) (nd2 (d := .none) (d' := .none) rfl) fun C f ctv code pm doc h'' as r g k2 F2 => ?_))
      (by decide) (.inl (by decide +kernel)) (by rw [hdn]; exact S.d4)
    · refine Classical.byContradiction fun nay => ?_
      obtain ⟨v, u, rfl⟩ := len2 hvs
      refine nay ?_
      clear nay
      rfl
    · refine Classical.byContradiction fun nay => ?_
      obtain ⟨i, hi, j, hj, rfl, rfl⟩ := g
      refine nay ?_
      clear nay
      exact ev_sub_int (ev_two F2 hw4 rfl (ev_loc F2 rfl) (ev_loc F2 rfl) (mem_up hi) (mem_up hj) rfl) (ev_two F2 hw4 rfl (ev_loc F2 rfl) (ev_loc F2 rfl) (mem_up hj) (mem_up hi) rfl)
  exact ex_weak (δ' := [("down", .list (nums (natI (dnS (rkl ws))))), ("up", .list (nums (natI (upS (rkl ws))))), ("two", .list ((twoM ws).map lst)), ("told", .list (((ords 4).map (reckL ws)).map strD)), ("parts", .list (ws.map fun w => partD (partL w))), ("pieces", .list ((ws.map quoL).map strD)), ("words", .list (ws.map strD))]) ⟨rfl, rfl, rfl, rfl, rfl, rfl, rfl, trivial⟩ k
theorem law_d2 {ws : List (List Nat)} (T : LawTop κ t tj ta h) (W : WsOk ws) (S : Sorts ws) (hT : κ.T = t.tb lo) (hgd : t.Good) (htl : tl ∈ t.tabs) (hql : tl.q = ql1)
    (k : Ex κ (n + 7) h V s₀ (lawEnv f L tl pm doc) [("down", .list (nums (natI (dnS (rkl ws))))), ("up", .list (nums (natI (upS (rkl ws))))), ("two", .list ((twoM ws).map lst)), ("told", .list (((ords 4).map (reckL ws)).map strD)), ("parts", .list (ws.map fun w => partD (partL w))), ("pieces", .list ((ws.map quoL).map strD)), ("words", .list (ws.map strD))] ((dAt 10).body.drop 18) Q) :
    Ex κ (n + 7) h V s₀ (lawEnv f L tl pm doc) [("down", .list (nums (natI (dnS (rkl ws))))), ("up", .list (nums (natI (upS (rkl ws))))), ("two", .list ((twoM ws).map lst)), ("told", .list (((ords 4).map (reckL ws)).map strD)), ("parts", .list (ws.map fun w => partD (partL w))), ("pieces", .list ((ws.map quoL).map strD)), ("words", .list (ws.map strD))] ((dAt 10).body.drop 13) Q := by
  have hs : sizeLine = 16777216 := rfl
  have hw4 := W.len
  -- whole, torn
  have up4 : ∀ {i : Nat} {d : Da}, (upto 4)[i]? = some d → i < 4 ∧ d = .int (i : Int) := fun {i d} e => by
    have hi : i < 4 := by
      have := (List.getElem?_eq_some_iff.mp e).1
      rwa [upto_length] at this
    rw [upto_get hi] at e
    exact ⟨hi, (Option.some.inj e).symm⟩
  have hwhole : (((upto 4).filter (onB (wI ws))).map id) = nums (natI (wh4 (rkl ws))) := pick_filter _ _ fun i hi => (rk4 hi).symm
  have htorn : (((upto 4).filter (onB fun p => !wI ws p)).map id) = nums (natI (tn4 (rkl ws))) := pick_filter _ _ fun i hi => by rw [rk4 hi]; rfl
  refine ex_of (d := .list (nums (natI (wh4 (rkl ws))))) (fun h' k F => ?_) ?_
  · rw [← hwhole]
    refine core_comp (f := id) (src_range (by decide) (ev_call_t (F.blt T.range) (evl_one ev_int Is.per) fun_range)) (by decide) rfl (clB_one rfl (by exact fun z => by cases z)) (fun C i d h' k' ed F' => ?_) fun C i d h' k' ed F' _ => ev_loc F' rfl
    obtain ⟨hi, rfl⟩ := up4 ed
    exact evt_one (evb_of (ev_part (k := 1) F' hw4 rfl (ev_loc F' rfl) ⟨by omega, by omega⟩ rfl (by decide) rfl))
  refine ex_of (d := .list (nums (natI (tn4 (rkl ws))))) (fun h' k F => ?_) ?_
  · rw [← htorn]
    refine core_comp (f := id) (src_range (by decide) (ev_call_t (F.blt T.range) (evl_one ev_int Is.per) fun_range)) (by decide) rfl (clB_one rfl (by exact fun z => by cases z)) (fun C i d h' k' ed F' => ?_) fun C i d h' k' ed F' _ => ev_loc F' rfl
    obtain ⟨hi, rfl⟩ := up4 ed
    exact evt_one (evb_not (b := wI ws (i : Int)) (evb_of (ev_part (k := 1) F' hw4 rfl (ev_loc F' rfl) ⟨by omega, by omega⟩ rfl (by decide) rfl)))
  have tl4 : (tn4 (rkl ws)).length ≤ 4 := by
    have := List.length_filter_le (fun i => !((rkl ws).getD i 0 == 4)) (List.range 4)
    rwa [List.length_range] at this
  have nl : (natI (tn4 (rkl ws))).length = (tn4 (rkl ws)).length := List.length_map _
  have hget : ∀ {i}, i < (tn4 (rkl ws)).length → (natI (tn4 (rkl ws))).getD i 0 = ((tn4 (rkl ws)).getD i 0 : Nat) ∧ (tn4 (rkl ws)).getD i 0 ∈ tn4 (rkl ws) := fun {i} hi => by
    have e2 : (tn4 (rkl ws)).getD i 0 = (tn4 (rkl ws))[i] := by rw [List.getD_eq_getElem?_getD, List.getElem?_eq_getElem hi]; rfl
    refine ⟨?_, by rw [e2]; exact List.getElem_mem hi⟩
    unfold natI
    rw [e2, List.getD_eq_getElem?_getD, List.getElem?_map, List.getElem?_eq_getElem hi]; rfl
  have rkt : ∀ {i j}, i < (tn4 (rkl ws)).length → j < (tn4 (rkl ws)).length → (gtT (rkl ws) i j = decide (lnl ws ((tn4 (rkl ws)).getD j 0) < lnl ws ((tn4 (rkl ws)).getD i 0))) := fun {i j} hi hj => by
    refine Classical.byContradiction fun nay => ?_
    obtain ⟨a, b⟩ := tn_mem.mp (hget hi).2
    obtain ⟨c, d⟩ := tn_mem.mp (hget hj).2
    refine nay ?_
    clear nay
    unfold gtT gtR
    refine decide_eq_decide.mpr ?_
    rw [rkl_lt W a c]
    unfold frk
    rw [b, d]
    simp only [Bool.false_eq_true, if_false]
  have lt1 : sortP (natI (tn4 (rkl ws))).length (ltI (natI (tn4 (rkl ws))) fun p => -(lnl ws p.toNat : Nat)) = sortP (tn4 (rkl ws)).length (gtT (rkl ws)) := by
    rw [nl]
    refine sortP_congr tl4 fun i j hi hj => ?_
    rw [rkt hi hj]
    unfold ltI
    rw [(hget hi).1, (hget hj).1]
    refine decide_eq_decide.mpr ?_
    simp only [Int.toNat_natCast]
    omega
  have lt2 : sortP (natI (tn4 (rkl ws))).length (ltI (natI (tn4 (rkl ws))) fun p => (lnl ws p.toNat : Nat)) = sortP (tn4 (rkl ws)).length (ltT (rkl ws)) := by
    rw [nl]
    refine sortP_congr tl4 fun i j hi hj => ?_
    show _ = gtT (rkl ws) j i
    rw [rkt hj hi]
    unfold ltI
    rw [(hget hi).1, (hget hj).1]
    refine decide_eq_decide.mpr ?_
    simp only [Int.toNat_natCast]
    omega
  have pk : ∀ {l : List Nat}, (∀ i ∈ l, i < (tn4 (rkl ws)).length) → (l.map fun i => (natI (tn4 (rkl ws))).getD i 0) = natI (pick (rkl ws) l) := fun h => by
    unfold natI pick
    rw [List.map_map]
    exact List.map_congr_left fun i hi => (hget (h i hi)).1
  have inT : ∀ {p : Int}, p ∈ natI (tn4 (rkl ws)) → 0 ≤ p ∧ p < 4 := fun hp => by
    refine Classical.byContradiction fun nay => ?_
    obtain ⟨i, hi, rfl⟩ := List.mem_map.mp hp
    refine nay ?_
    clear nay
    have := (tn_mem.mp hi).1
    omega
  have hlen : ∀ {p : Int}, 0 ≤ p ∧ p < 4 → ((tx (partL (wd ws p)).1).length : Int) = (lnl ws p.toNat : Nat) ∧ (tx (partL (wd ws p)).1).length ≤ sizeLine := fun {p} hp => by
    have := lnl_lt W (i := p.toNat) (by omega)
    rw [tx_length]
    exact ⟨rfl, by show lnl ws p.toNat ≤ _; omega⟩
  refine ex_assign' (d := .list (nums (natI (upS (rkl ws))))) (fun h' k F => ?_) ?_
  · have e1 : nums (natI (upS (rkl ws))) = nums (natI (wh4 (rkl ws))) ++ nums ((sortP (natI (tn4 (rkl ws))).length (ltI (natI (tn4 (rkl ws))) fun p => -(lnl ws p.toNat : Nat))).map fun i => (natI (tn4 (rkl ws))).getD i 0) := by
      rw [lt1, pk S.ut]
      unfold upS natI nums
      rw [List.map_append, List.map_append]
    have hz := congrArg List.length e1
    rw [e1]
    refine ev_ladd (ev_loc F rfl) (ev_sortedI (n := n + 3) F T.sorted (ev_loc F rfl) (ev_lamN (m := n + 2) (xs := ["place"]) (δc := [("parts", .list (ws.map fun w => partD (partL w)))]) F (T.ct.bm.ext k) hT hgd htl (by intro p; rw [hql]; rfl) rfl rfl rfl rfl (clB3 rfl (by exact fun z => by cases z) rfl) ⟨rfl, trivial⟩ (fun as r zz => by obtain ⟨i, _, e, _⟩ := zz; exact by rw [e]; rfl) (fun ctv code pm doc vs hvs => ?_) (nd1 (d := .none)) fun C f ctv code pm doc h'' as r g k2 F2 => ?_) (by rw [nl]; omega) (by rw [nl]; exact okT4 tl4) (by rw [lt1, nl]; exact S.ut)) ?_
    · obtain ⟨v, rfl⟩ := List.length_eq_one_iff.mp hvs
      rfl
    · refine Classical.byContradiction fun nay => ?_
      obtain ⟨p, hp, rfl, rfl⟩ := g
      refine nay ?_
      clear nay
      have hp4 := inT hp
      obtain ⟨z1, z2⟩ := hlen hp4
      show Ev κ (n + 2) _ h'' _ (Is (.int (-(lnl ws p.toNat : Nat))))
      rw [← z1]
      exact ev_neg (ev_call_b (F2.blt T.len) (evl_one (ev_part (k := 0) F2 hw4 rfl (ev_loc F2 rfl) hp4 rfl (by decide) rfl) Is.per) (fun_len_str z2))
    · rw [List.length_append] at hz
      rw [← hz, List.length_map, (ords4.1 _ S.ou).1]
      omega
  refine ex_assign' (d := .list (nums (natI (dnS (rkl ws))))) (fun h' k F => ?_) ?_
  · have e1 : nums (natI (dnS (rkl ws))) = nums ((sortP (natI (tn4 (rkl ws))).length (ltI (natI (tn4 (rkl ws))) fun p => (lnl ws p.toNat : Nat))).map fun i => (natI (tn4 (rkl ws))).getD i 0) ++ nums (natI (wh4 (rkl ws))) := by
      rw [lt2, pk S.dt]
      unfold dnS natI nums
      rw [List.map_append, List.map_append]
    have hz := congrArg List.length e1
    rw [e1]
    refine ev_ladd (ev_sortedI (n := n + 3) F T.sorted (ev_loc F rfl) (ev_lamN (m := n + 2) (xs := ["place"]) (δc := [("parts", .list (ws.map fun w => partD (partL w)))]) F (T.ct.bm.ext k) hT hgd htl (by intro p; rw [hql]; rfl) rfl rfl rfl rfl (clB3 rfl (by exact fun z => by cases z) rfl) ⟨rfl, trivial⟩ (fun as r zz => by obtain ⟨i, _, e, _⟩ := zz; exact by rw [e]; rfl) (fun ctv code pm doc vs hvs => ?_) (nd1 (d := .none)) fun C f ctv code pm doc h'' as r g k2 F2 => ?_) (by rw [nl]; omega) (by rw [nl]; exact okT4 tl4) (by rw [lt2, nl]; exact S.dt)) (ev_loc F rfl) ?_
    · obtain ⟨v, rfl⟩ := List.length_eq_one_iff.mp hvs
      rfl
    · refine Classical.byContradiction fun nay => ?_
      obtain ⟨p, hp, rfl, rfl⟩ := g
      refine nay ?_
      clear nay
      have hp4 := inT hp
      obtain ⟨z1, z2⟩ := hlen hp4
      show Ev κ (n + 2) _ h'' _ (Is (.int (lnl ws p.toNat : Nat)))
      rw [← z1]
      exact ev_call_b (F2.blt T.len) (evl_one (ev_part (k := 0) F2 hw4 rfl (ev_loc F2 rfl) hp4 rfl (by decide) rfl) Is.per) (fun_len_str z2)
    · rw [List.length_append] at hz
      rw [← hz, List.length_map, (ords4.1 _ S.od).1]
      omega
  have sh : Sh 2 (.list [lst (natI (upS (rkl ws))), lst (natI (dnS (rkl ws)))]) := .list (.cons Sh.nums (.cons Sh.nums .nil))
  refine ex_skip (fun h' k F => evb_ne_same (k := 2) (ev_list (evl_is (ev_loc F rfl) (evl_is (ev_loc F rfl) evl_is_nil)) (show 2 ≤ sizeLine by decide)) (ev_list (evl_is (ev_loc F rfl) (evl_is (ev_loc F rfl) evl_is_nil)) (show 2 ≤ sizeLine by decide)) sh rfl (by decide)) (ex_weak (δ' := [("down", .list (nums (natI (dnS (rkl ws))))), ("up", .list (nums (natI (upS (rkl ws))))), ("two", .list ((twoM ws).map lst)), ("told", .list (((ords 4).map (reckL ws)).map strD)), ("parts", .list (ws.map fun w => partD (partL w))), ("pieces", .list ((ws.map quoL).map strD)), ("words", .list (ws.map strD))]) ⟨rfl, rfl, rfl, rfl, rfl, rfl, rfl, trivial⟩ k)
end Mine
end
section
open PySem PySem.W PySem.W.X PyProof.Rows PySem.Calls
set_option Elab.async false
set_option maxRecDepth 100000
set_option maxHeartbeats 1000000
namespace Mine
variable {κ : Cx} {n m : Nat} {env : Env} {h : Heap} {δ : Del} {A : Around} {V : Addr → Prop} {s₀ s : Shared} {ρ : Str → Option Value}
/-! ## objects of K -/
theorem KOf.inst {a : Addr} {i : Int} {u : Value} {h' : Heap} (x : KOf a (.int i) V u h') : Dn V h' u (.inst a i) := by
  refine Classical.byContradiction fun nay => ?_
  obtain ⟨x, v, rfl, vx, I, dv⟩ := x
  obtain ⟨dx, e⟩ := I.ex
  cases dv
  refine nay ?_
  clear nay
  exact .inst vx e
/-- K(e) -/
theorem ev_call_K {f : Str} {p pos : Pos} {e : Expr} {a : Addr} {fv : Value} {i : Int} (F : Fd κ h env δ) (hv : Vr κ h env f (.ref a)) (K : IsK h a fv) (x : Ev κ (n + 1) env h e (Is (.int i)))
    (he : ∀ pos, backTo pos (starEach [e] env) = (false, eval e env) :: backTo pos (starEach [] env) := by intro _; rfl) (hp : ∀ pos, (backTo pos (starEach [e] env)).any (·.1) = false := by intro _; rfl) (hd : (f == ("__debug__" : Str)) = false := by decide) :
    Ev κ (n + 1) env h (.Call (.Name f p) [e] [] pos) (Is (.inst a i)) := by
  intro A s V rm y
  refine wpAny_Call_NameR (wpAny_Name (hv A _ _ s y.ext ?_) hd)
  unfold callWith
  have hpp := hp pos
  have z := fun Q k => (evl_d x he).go (A := A) (s := s) (V := V) (Q := Q) (E := fun _ _ => False) pos rm y k
  rw [he] at z hpp ⊢
  refine wpAny_bind (wpAny_holding (evalArgs_plain (z _ fun vs s1 pv l y1 => wpAny_bind (wpAny_standAt ?_))))
  rw [hpp]
  have c := (fun_K (n := n) F.base K A s1 V vs rm y1 pv).after l
  refine Classical.byContradiction fun nay => ?_
  obtain ⟨N, D, cell, fi, m, K0⟩ := K.ext y1.ext
  obtain ⟨k, hC⟩ := K0.ob
  rw [kObj_exc] at hC
  obtain ⟨hh, g, dr, t, os⟩ := s1
  refine nay ?_
  clear nay
  refine wpAny_bind (wpAny_keeperOf_exc hC ?_)
  exact wpAny_bind (wpAny_mono c (fun r s2 hr => wpAny_bind (wpAny_holding (wpAny_point (wpAny_pure ⟨hr.1.inst, hr.2⟩)))) fun _ _ x => x)
/-- one object of K compared with another -/
theorem ev_instCmp {op : CmpOp} {nm : Str} {l r : Expr} {pos : Pos} {a fl : Addr} {i j c : Int} (ho : (nm, op) ∈ mops) (F : Fd κ h env δ) (K : IsK h a (.ref fl)) (hfn : IsFn h fl) (lam : Fun κ n h (.ref fl) (Iss [.int i, .int j]) (Is (.int c))) (h1 : Ev κ (n + 1) env h l (Is (.inst a i))) (h2 : Ev κ (n + 1) env h r (Is (.inst a j)))
    (hm : behindInMarks op r = false := by with_unfolding_all rfl) : Ev κ (n + 1) env h (.Compare l [op] [r] pos) (Is (.bool (cmpB op c))) := by
  intro A s V rm y
  refine wpAny_Compare1 (h1.go rm y fun u s1 p l1 y1 => h2.go rm y1 fun v s2 q l2 y2 => ?_) hm
  have p2 := Is.per (κ := κ) _ _ _ _ l2.ext p
  cases p2 with
  | @inst x dx _ _ t vx e1 =>
  cases q with
  | @inst x' dx' _ _ t' vx' e2 =>
  have bs := F.base.ext y2.ext
  have ks := K.ext y2.ext
  refine Classical.byContradiction fun nay => ?_
  obtain ⟨N, D, cell, fi, m, K0⟩ := id ks
  obtain ⟨flm, hml, M⟩ := K0.ops nm op ho
  obtain ⟨fd, ex, kf, _⟩ := id M
  refine nay ?_
  clear nay
  have I : KInst s2.heap x a (.int i t) := ⟨dx, e1⟩
  have J : KInst s2.heap x' a (.int j t') := ⟨dx', e2⟩
  have z := fun_meth (κ := κ) (n := n) (nm := nm) (d := .int i) (e := .int j) ho bs M K0.ce (hfn.ext y2.ext) ks I (fun _ _ => .int _ _) rfl ks J (fun _ _ => .int _ _) rfl (lam.up y2.ext) A s2 Tr [.ref x, .ref x'] rm (.self y2.tk y2.ok) (.cons (.val _) (.cons (.val _) .nil))
  have fin : wpAny κ.M A (richCompare op (.ref x) (.ref x')) (fun v s' => Is (.bool (cmpB op c)) V v s'.heap ∧ Lt κ.T NoX s s') (fun _ _ => False) s2 := by
    have hi : (cmpInfo op).2.1 = nm := by
      simp only [mops, List.mem_cons, Prod.mk.injEq, List.not_mem_nil, or_false] at ho
      rcases ho with ⟨rfl, rfl⟩ | ⟨rfl, rfl⟩ | ⟨rfl, rfl⟩ | ⟨rfl, rfl⟩ | ⟨rfl, rfl⟩ <;> rfl
    unfold richCompare
    simp only [oneThing_ref]
    refine wpAny_holding (wpAny_bind (wpAny_cRoomFor rm.units ?_))
    refine wpAny_bind (I.type.here (wpAny_bind (J.type.here ?_)))
    rw [if_neg (by simp)]
    refine wpAny_bind (wpAny_pure ?_)
    simp only [Bool.false_eq_true, if_false]
    rw [hi]
    unfold tryCompare
    refine wpAny_bind (wpAny_bind (k_if K0 I hml kf.ob (wpAny_mono z (fun u s' q => ?_) fun _ _ f => f)))
    refine Classical.byContradiction fun nay => ?_
    obtain ⟨q1, l3⟩ := q
    cases q1
    refine nay ?_
    clear nay
    exact wpAny_pure (wpAny_pure ⟨.bool _, (l1.trans l2).trans l3⟩)
  simp only [mops, List.mem_cons, Prod.mk.injEq, List.not_mem_nil, or_false] at ho
  rcases ho with ⟨rfl, rfl⟩ | ⟨rfl, rfl⟩ | ⟨rfl, rfl⟩ | ⟨rfl, rfl⟩ | ⟨rfl, rfl⟩ <;> exact fin
/-! ## the frame alone, what it has made with it -/
theorem In.locAt' (F : In κ h V s₀ env ρ s) : ∀ b, Loc env b → ∃ o, s.heap.get? b = some o ∧ ((∃ es ep, o.data = .dict es ep) ∨ ∃ u, o.data = .cell u) := by
  rintro b (rfl | ⟨x, e⟩)
  · refine Classical.byContradiction fun nay => ?_
    obtain ⟨m, ⟨o, es, ep, e, hd, _⟩, _⟩ := F.fm.ns
    refine nay ?_
    clear nay
    rw [cutH_yes F.vL] at e
    exact ⟨o, e, .inl ⟨_, _, hd⟩⟩
  · refine Classical.byContradiction fun nay => ?_
    obtain ⟨u, ⟨o, eo, hd⟩, _⟩ := F.fm.cl x b e
    refine nay ?_
    clear nay
    rw [cutH_yes (F.y.vis _ (.inr (F.newC x b e)))] at eo
    exact ⟨o, eo, .inr ⟨_, hd⟩⟩
/-- as if the frame began here -/
noncomputable def cutS (env : Env) (s : Shared) : Shared := ⟨cutH (fun b => ¬ Loc env b) s.heap, s.gens, s.drawn, s.toks, s.os⟩
theorem notLoc (F : In κ h V s₀ env ρ s) : ∀ b, s₀.heap.get? b ≠ none → ¬ Loc env b := by
  rintro b e (rfl | ⟨x, q⟩)
  · exact e F.newL
  · exact e (F.newC x b q)
theorem ext_cutS (F : In κ h V s₀ env ρ s) : Ext κ.T s₀.heap (cutS env s).heap := fun b o _ e => by
  have nl := notLoc F b (by rw [e]; exact fun z => by cases z)
  show (cutH _ s.heap).get? b = _ ∨ _ ∧ ∃ ps more, _ ∧ (cutH _ s.heap).get? b = _
  rw [cutH_yes nl]
  exact F.l.ext b o (fun f => f) e
theorem rebase {Q : Flow → Shared → Prop} {rest : List Stmt} (F : Fr κ h V s₀ env δ s)
    (k : Ext κ.T h (cutS env s).heap → Fr κ (cutS env s).heap Tr (cutS env s) env δ s → wpAny κ.M A (execs rest env) (fun fl s' => Q fl s' ∧ ExtB κ.T (Loc env) s.heap s'.heap) (fun _ _ => False) s) : wpAny κ.M A (execs rest env) (fun fl s' => Q fl s' ∧ ExtB κ.T (Loc env) s.heap s'.heap) (fun _ _ => False) s := by
  refine Classical.byContradiction fun nay => ?_
  obtain ⟨ρ, G, H⟩ := F.ex
  refine nay ?_
  clear nay
  have e1 : Ext κ.T h (cutS env s).heap := G.y.ext.trans (ext_cutS G)
  refine k e1 ⟨ρ, ⟨G.b.ext e1, ?_, ?_, G.tk, G.fm.ext (fun b o _ e => .inl ?_), cutH_no fun q => q (.inl rfl), fun x a q => cutH_no fun z => z (.inr ⟨x, q⟩), G.inj⟩, fun x d q => by obtain ⟨v, p, w⟩ := H x d q; exact ⟨v, p, w.at fun _ _ _ => trivial⟩⟩
  · refine .self G.tk (κ.T.st _ _ (G.l.ok G.y.ok) fun b o vs e hd _ => ?_)
    show (cutH _ s.heap).get? b = _
    rw [cutH_yes fun lb => by
      refine Classical.byContradiction fun nay => ?_
      obtain ⟨o', e', n1, _⟩ := G.locAt b lb
      refine nay ?_
      clear nay
      rw [e] at e'; cases e'; exact n1 _ hd]
    exact e
  · exact ⟨cutH_ext, id, rfl, fun _ => G.l.ok G.y.ok, fun _ => ⟨rfl, rfl⟩⟩
  · by_cases vb : V b
    · rw [cutH_yes vb] at e; rw [cutH_yes (K := Tr) trivial]; exact e
    · rw [cutH_no vb] at e; cases e
theorem rt_cutS {P : Pr} (flat : ∀ W W' v h', P W v h' → P W' v h') (F : In κ h V s₀ env ρ s) {fl : Flow} {s' : Shared} (q : rt κ Tr (cutS env s) P fl s') : rt κ V s₀ P fl s' := by
  refine Classical.byContradiction fun nay => ?_
  obtain ⟨⟨v, e, p⟩, l⟩ := q
  refine nay ?_
  clear nay
  have okS : κ.T.ok s.heap := F.l.ok F.y.ok
  have okC : κ.T.ok (cutS env s).heap := κ.T.st _ _ okS fun b o vs e hd _ => by
    show (cutH _ s.heap).get? b = _
    rw [cutH_yes fun lb => by
      refine Classical.byContradiction fun nay => ?_
      obtain ⟨o', e', n1, _⟩ := F.locAt b lb
      refine nay ?_
      clear nay
      rw [e] at e'; cases e'; exact n1 _ hd]
    exact e
  exact ⟨⟨v, e, flat _ _ _ _ p⟩, (ext_cutS F).trans l.ext, fun g => l.gens (F.l.gens g), l.os.trans F.l.os, fun _ => l.ok okC, fun g => ⟨(l.same g).1.trans (F.l.same g).1, (l.same g).2.trans (F.l.same g).2⟩⟩
end Mine
end
section
open PySem PySem.W PySem.W.X PyProof.Rows PySem.Calls
set_option Elab.async false
set_option maxRecDepth 100000
set_option maxHeartbeats 1000000
namespace Mine
variable {κ : Cx} {h : Heap} {n m : Nat} {t : Tx} {tj ta tl : Tab} {lo : Prop} {V : Addr → Prop} {s₀ : Shared} {Q : Flow → Shared → Prop} {f L : Addr} {pm doc : Value} {env : Env} {δ : Del}
/-! ## a lambda as an object -/
noncomputable def LamRaw (κ : Cx) (env : Env) (δ0 : Del) (m : Nat) (G : List Da → Da → Prop) : Pr := fun _ u h => ∃ fl fd, u = .ref fl ∧ h.get? fl = some (fnObj fd) ∧ CodeOk h fd.code fd.qualname ∧ ∀ h', h'.get? fl = some (fnObj fd) → CodeOk h' fd.code fd.qualname → Fd κ h' env δ0 → ∀ as r, G as r → Fun κ m h' (.ref fl) (Iss as) (Is r)
theorem LamRaw.per {δ0 : Del} {G : List Da → Da → Prop} : Per κ (LamRaw κ env δ0 m G) := fun _ _ _ _ e zz => by obtain ⟨fl, fd, u, o, c, k⟩ := zz; exact ⟨fl, fd, u, Ext.get e o (fun z => by cases z), c.ext e, k⟩
theorem ev_lamRaw {b : Tab} {lp : Pos} {params : Arguments} {e : Expr} {scope : Scope} {cl : List (Str × Addr)} {xs : List Str} {δc δ0 : Del} {G : List Da → Da → Prop} (F : Fd κ h env δ) (bm : Bm κ h) (hT : κ.T = t.tb lo) (hgd : t.Good) (hb : b ∈ t.tabs) (hq : ∀ p, b.q p = env.qual ++ "<lambda>")
    (hc : env.code = .ref b.c) (hg : env.globals = mainGlobals) (hclos : closureFor scope env = pure cl) (hdef : defaultsOf params env = ([], []))
    (hcl : ∀ x a, cl.lookup x = some a → env.cells.lookup x = some a ∧ env.kindOf x ≠ some .local ∧ (δc.lookup x).isSome = true) (hsub : Sub δc δ0)
    (hlen : ∀ as r, G as r → as.length = xs.length)
    (hbind : ∀ ctv code pm doc vs, vs.length = xs.length → bindArgs (fnK "<lambda>" (env.qual ++ "<lambda>") params (.expr e) scope cl ctv code pm doc) ⟨vs, []⟩ = pure (xs.zip vs))
    (hnd : ∀ vs : List Value, vs.length = xs.length → ∀ y, (xs.zip vs).reverse.lookup y = (xs.zip vs).lookup y)
    (hbody : ∀ C f ctv code pm doc h'' as r, G as r → Fd κ h'' (callEnvK (fnK "<lambda>" (env.qual ++ "<lambda>") params (.expr e) scope cl ctv code pm doc) C f) (xs.zip as ++ δc) → Ev κ m (callEnvK (fnK "<lambda>" (env.qual ++ "<lambda>") params (.expr e) scope cl ctv code pm doc) C f) h'' e (Is r))
    (hco : scope.isCoroutine = false := by rfl) (hge : scope.isGenerator = false := by rfl) (hkk : scope.kind = .function := by rfl) (hnc : scope.names.all (fun x => !(x.2 == .cell)) = true := by rfl)
    (hloc : xs.all (fun x => scope.names.lookup x == some .local) = true := by rfl) (hfr : δc.all (fun x => !(scope.names.lookup x.1 == some .local)) = true := by rfl) :
    Ev κ n env h (.Lambda params e scope lp) (LamRaw κ env δ0 (m + 1) G) := by
  refine ev_lambda F.base bm hg hclos hdef (fun A s1 ok => ?_) fun V h' f' ctv code pm doc k ho' cok => ⟨f', _, rfl, ho', cok, fun h2 o2 c2 F2 as r g => ?_⟩
  · rw [← hq lp]
    exact coder_law hT hgd hb hc (fun p _ _ => by rw [hq, hq]) (by rw [hT] at ok; exact ok)
  · exact fun_lam (xs := xs) (δc := δc) F2 (.refl _) o2 c2 hcl hsub (fun vs hvs => hbind ctv code pm doc vs (by rw [hvs, hlen as r g])) (fun vs hvs => hnd vs (by rw [hvs, hlen as r g])) (fun C h'' k2 F3 => hbody C f' ctv code pm doc h'' as r g F3) hco hge hkk hnc hloc hfr
theorem Fd.weak {δ' : Del} (F : Fd κ h env δ) (k : Sub δ' δ) : Fd κ h env δ' := by obtain ⟨ρ, a, b⟩ := F.ex; exact ⟨ρ, a, fun x d e => b x d (k.look x d e)⟩
theorem ev_lt_int {l r : Expr} {pos : Pos} {a b : Int} (h1 : Ev κ n env h l (Is (.int a))) (h2 : Ev κ n env h r (Is (.int b))) (hm : behindInMarks .Lt r = false := by with_unfolding_all rfl) : Ev κ n env h (.Compare l [.Lt] [r] pos) (Is (.bool (decide (a < b)))) :=
  ev_cmp h1 Is.per h2 (fun _ s _ _ _ _ x y => by cases x; cases y; exact P.lt_int ⟨.bool _, .refl s⟩) hm
theorem ev_le_int {l r : Expr} {pos : Pos} {a b : Int} (h1 : Ev κ n env h l (Is (.int a))) (h2 : Ev κ n env h r (Is (.int b))) (hm : behindInMarks .LtE r = false := by with_unfolding_all rfl) : Ev κ n env h (.Compare l [.LtE] [r] pos) (Is (.bool (decide (a ≤ b)))) :=
  ev_cmp h1 Is.per h2 (fun _ s _ _ _ _ x y => by cases x; cases y; exact P.le_int ⟨.bool _, .refl s⟩) hm
theorem ev_gt_int {l r : Expr} {pos : Pos} {a b : Int} (h1 : Ev κ n env h l (Is (.int a))) (h2 : Ev κ n env h r (Is (.int b))) (hm : behindInMarks .Gt r = false := by with_unfolding_all rfl) : Ev κ n env h (.Compare l [.Gt] [r] pos) (Is (.bool (decide (a > b)))) :=
  ev_cmp h1 Is.per h2 (fun _ s _ _ _ _ x y => by cases x; cases y; exact P.gt_int ⟨.bool _, .refl s⟩) hm
theorem ev_ge_int {l r : Expr} {pos : Pos} {a b : Int} (h1 : Ev κ n env h l (Is (.int a))) (h2 : Ev κ n env h r (Is (.int b))) (hm : behindInMarks .GtE r = false := by with_unfolding_all rfl) : Ev κ n env h (.Compare l [.GtE] [r] pos) (Is (.bool (decide (a ≥ b)))) :=
  ev_cmp h1 Is.per h2 (fun _ s _ _ _ _ x y => by cases x; cases y; exact P.ge_int ⟨.bool _, .refl s⟩) hm
noncomputable def cmpE (ws : List (List Nat)) (i j : Int) : Int := two2 (wd ws i) (wd ws j) - two2 (wd ws 3) (wd ws 0)
noncomputable abbrev restD (ws : List (List Nat)) : Del := [("down", .list (nums (natI (dnS (rkl ws))))), ("up", .list (nums (natI (upS (rkl ws))))), ("told", .list (((ords 4).map (reckL ws)).map strD)), ("parts", .list (ws.map fun w => partD (partL w))), ("pieces", .list ((ws.map quoL).map strD)), ("words", .list (ws.map strD))]
/-- keys made, and compared -/
theorem law_keys {ws : List (List Nat)} {a fl : Addr} (T : LawTop κ t tj ta h) (W : WsOk ws) (K : IsK h a (.ref fl)) (hfn : IsFn h fl)
    (lam : ∀ h', Ext κ.T h h' → Fd κ h' (lawEnv f L tl pm doc) [("two", .list ((twoM ws).map lst))] → ∀ as r, CmpG (upInts 4) (cmpE ws) as r → Fun κ (n + 1) h' (.ref fl) (Iss as) (Is r))
    (k : Ex κ (n + 2) h V s₀ (lawEnv f L tl pm doc) (restD ws) ((dAt 10).body.drop 21) Q) :
    Ex κ (n + 2) h V s₀ (lawEnv f L tl pm doc) (("key", .val (.ref a)) :: ("two", .list ((twoM ws).map lst)) :: restD ws) ((dAt 10).body.drop 19) (fun fl s => Q fl s) := by
  have hw4 := W.len
  refine ex_of (d := .list ((upto 4).map (onI fun i => .inst a i))) (fun h' k F => ?_) ?_
  · refine core_map (src_range (by decide) (ev_call_t (F.blt T.range) (evl_one ev_int Is.per) fun_range)) (by decide) rfl (clB_one rfl (by exact fun z => by cases z)) fun C i d h' k' ed F' => ?_
    have hi : i < 4 := by
      have := (List.getElem?_eq_some_iff.mp ed).1
      rwa [upto_length] at this
    rw [upto_get hi] at ed
    cases ed
    exact ev_call_K F' (F'.vr rfl) (K.ext (k.trans k')) (ev_loc F' rfl)
  have hkey : ∀ i : Nat, i < 4 → ((upto 4).map (onI fun i => .inst a i))[((i : Int)).toNat]? = some (.inst a (i : Int)) := fun i hi => by
    rw [List.getElem?_map, Int.toNat_natCast, upto_get hi]; rfl
  refine ex_for (ds := upto 4) (δ' := restD ws) (fun _ => True) (fun _ => ("keys", .list ((upto 4).map (onI fun i => .inst a i))) :: ("two", .list ((twoM ws).map lst)) :: restD ws)
    (fun h' k F => src_range (by decide) (ev_call_t (F.blt T.range) (evl_one ev_int Is.per) fun_range)) ?_ (fun _ => ⟨rfl, rfl, rfl, rfl, rfl, rfl, trivial⟩) trivial ⟨rfl, rfl, rfl, rfl, rfl, rfl, rfl, rfl, trivial⟩ k
  intro i d hd _
  have hi : i < 4 := by
    have := (List.getElem?_eq_some_iff.mp hd).1
    rwa [upto_length] at this
  rw [upto_get hi] at hd
  cases hd
  refine ex_for (ds := upto 4) (δ' := ("keys", .list ((upto 4).map (onI fun i => .inst a i))) :: ("two", .list ((twoM ws).map lst)) :: restD ws) (fun _ => True) (fun _ => ("one", .int (i : Int)) :: ("keys", .list ((upto 4).map (onI fun i => .inst a i))) :: ("two", .list ((twoM ws).map lst)) :: restD ws)
    (fun h' k F => src_range (by decide) (ev_call_t (F.blt T.range) (evl_one ev_int Is.per) fun_range)) ?_ (fun _ => ⟨rfl, rfl, rfl, rfl, rfl, rfl, rfl, rfl, trivial⟩) trivial ⟨rfl, rfl, rfl, rfl, rfl, rfl, rfl, rfl, rfl, trivial⟩ (ex_nil fun s F => ⟨trivial, F⟩)
  intro j d hd _
  have hj : j < 4 := by
    have := (List.getElem?_eq_some_iff.mp hd).1
    rwa [upto_length] at this
  rw [upto_get hj] at hd
  cases hd
  have hi4 : 0 ≤ (i : Int) ∧ (i : Int) < 4 := ⟨by omega, by omega⟩
  have hj4 : 0 ≤ (j : Int) ∧ (j : Int) < 4 := ⟨by omega, by omega⟩
  have mup : ∀ i : Nat, i < 4 → (i : Int) ∈ upInts 4 := fun i hi => List.mem_map.mpr ⟨i, List.mem_range.mpr hi, rfl⟩
  refine ex_assign' (d := .int (cmpE ws i j)) (fun h' k F => ev_sub_int (ev_two F hw4 rfl (ev_loc F rfl) (ev_loc F rfl) hi4 hj4 rfl) (ev_two F hw4 rfl ev_int ev_int (by decide) (by decide) rfl)) ?_
  have cmp1 : ∀ {op : CmpOp} {nm : Str} {h' : Heap} {δ' : Del} {p1 p2 p3 p4 p5 p6 p7 : Pos}, (nm, op) ∈ mops → Ext κ.T h h' → Fd κ h' (lawEnv f L tl pm doc) δ' → δ'.lookup ("one" : Str) = some (.int (i : Int)) → δ'.lookup ("other" : Str) = some (.int (j : Int)) → δ'.lookup ("keys" : Str) = some (.list ((upto 4).map (onI fun i => .inst a i))) → Sub [("two", .list ((twoM ws).map lst))] δ' →
      behindInMarks op (.Subscript (.Name "keys" p4) (.Name "other" p5) p6) = false →
      Ev κ (n + 2) (lawEnv f L tl pm doc) h' (.Compare (.Subscript (.Name "keys" p1) (.Name "one" p2) p3) [op] [.Subscript (.Name "keys" p4) (.Name "other" p5) p6] p7) (Is (.bool (cmpB op (cmpE ws i j)))) := fun ho k F a1 a2 a3 a4 hm =>
    ev_instCmp ho F (K.ext k) (hfn.ext k) (lam _ k (F.weak a4) _ _ ⟨i, mup i hi, j, mup j hj, rfl, rfl⟩) (ev_item (k := (i : Int)) (ev_loc F a3) (ev_loc F a1) hi4.1 (by omega) (hkey i hi)) (ev_item (k := (j : Int)) (ev_loc F a3) (ev_loc F a2) hj4.1 (by omega) (hkey j hj)) hm
  refine ex_assign' (d := .list [.bool (cmpB .Lt (cmpE ws i j)), .bool (cmpB .LtE (cmpE ws i j)), .bool (cmpB .Eq (cmpE ws i j))]) (fun h' k F => ?_) ?_
  · exact ev_list (evl_is (cmp1 (nm := "__lt__") (by simp [mops]) k F rfl rfl rfl ⟨rfl, trivial⟩ (by with_unfolding_all rfl)) (evl_is (cmp1 (nm := "__le__") (by simp [mops]) k F rfl rfl rfl ⟨rfl, trivial⟩ (by with_unfolding_all rfl)) (evl_is (cmp1 (nm := "__eq__") (by simp [mops]) k F rfl rfl rfl ⟨rfl, trivial⟩ (by with_unfolding_all rfl)) evl_is_nil))) (show 3 ≤ sizeLine by decide)
  have sh : Sh 1 (.list ([.bool (cmpB .Lt (cmpE ws i j)), .bool (cmpB .LtE (cmpE ws i j)), .bool (cmpB .Eq (cmpE ws i j))] ++ [.bool (cmpB .GtE (cmpE ws i j)), .bool (cmpB .Gt (cmpE ws i j))])) := .list (.cons .bool (.cons .bool (.cons .bool (.cons .bool (.cons .bool .nil)))))
  refine ex_skip (fun h' k F => evb_ne_same (k := 1) (ev_ladd (ev_loc F rfl) (ev_list (evl_is (cmp1 (nm := "__ge__") (by simp [mops]) k F rfl rfl rfl ⟨rfl, trivial⟩ (by with_unfolding_all rfl)) (evl_is (cmp1 (nm := "__gt__") (by simp [mops]) k F rfl rfl rfl ⟨rfl, trivial⟩ (by with_unfolding_all rfl)) evl_is_nil)) (show 2 ≤ sizeLine by decide)) (show 5 ≤ sizeLine by decide))
    (ev_list (evl_is (ev_lt_int (ev_loc F rfl) ev_int) (evl_is (ev_le_int (ev_loc F rfl) ev_int) (evl_is (ev_eq_int (ev_loc F rfl) ev_int) (evl_is (ev_ge_int (ev_loc F rfl) ev_int) (evl_is (ev_gt_int (ev_loc F rfl) ev_int) evl_is_nil))))) (show 5 ≤ sizeLine by decide)) sh rfl (by decide)) ?_
  exact ex_nil fun s F => ⟨trivial, F.weak ⟨rfl, rfl, rfl, rfl, rfl, rfl, rfl, rfl, rfl, trivial⟩⟩
end Mine
end
section
open PySem PySem.W PySem.W.X PyProof.Rows PySem.Calls
set_option Elab.async false
set_option maxRecDepth 100000
set_option maxHeartbeats 1000000
namespace Mine
variable {κ : Cx} {h : Heap} {n m : Nat} {t : Tx} {tj ta tl : Tab} {lo : Prop} {V : Addr → Prop} {s₀ : Shared} {Q : Flow → Shared → Prop} {f L : Addr} {pm doc : Value} {env : Env} {δ : Del}
/-- the class, past what the frame stores -/
theorem KAt.cut {s s1 s2 : Shared} {ρ : Str → Option Value} {a N D C fi : Addr} {v : Value} {mm : Str → Option Value} (G0 : In κ h V s₀ env ρ s) (l1 : Lt κ.T NoX s s1) (e12 : ExtB κ.T (Loc env) s1.heap s2.heap) (K : KAt s1.heap a v N D C fi mm) (nN : ¬ Loc env N) (nC : ¬ Loc env C) : KAt (cutS env s2).heap a v N D C fi mm := by
  have up : ∀ b o, ¬ Loc env b → s1.heap.get? b = some o → (∀ vs, o.data ≠ .fields vs) → (cutS env s2).heap.get? b = some o := fun b o nl e nf => (cutH_yes (K := fun b => ¬ Loc env b) nl).trans (ExtB.get_data e12 nl e nf)
  refine K.past (fun b o e hc nd ncl => ?_) ?_ ?_
  · have nl : ¬ Loc env b := fun lb => by
      refine Classical.byContradiction fun nay => ?_
      obtain ⟨o', e', hd⟩ := G0.locAt' b lb
      refine nay ?_
      clear nay
      have e1 := Ext.get_data l1.ext e' (by rcases hd with ⟨_, _, q⟩ | ⟨_, q⟩ <;> rw [q] <;> exact fun vs z => by cases z)
      rw [e] at e1; cases e1
      rcases hd with ⟨_, _, q⟩ | ⟨_, q⟩
      · exact nd _ _ q
      · exact ncl _ q
    exact (cutH_yes (K := fun b => ¬ Loc env b) nl).trans (ExtB.get e12 nl e hc)
  · refine K.ns.at fun o e => up N o nN e fun vs z => ?_
    refine Classical.byContradiction fun nay => ?_
    obtain ⟨o', es, ep, e', hd, _⟩ := K.ns
    refine nay ?_
    clear nay
    rw [e] at e'; cases e'; rw [hd] at z; cases z
  · refine Classical.byContradiction fun nay => ?_
    obtain ⟨o, e, hd⟩ := K.ce
    refine nay ?_
    clear nay
    exact ⟨o, up C o nC e (fun vs z => by rw [hd] at z; cases z), hd⟩
theorem law_e {ws : List (List Nat)} (b : Base κ h) (T : LawTop κ t tj ta h) (W : WsOk ws) (hT : κ.T = t.tb lo) (hgd : t.Good) (htl : tl ∈ t.tabs) (hql : tl.q = ql1) (hkp : t.kpos = ⟨5, 4, 26, 23⟩) (hqk : t.qk = qkOf qk1)
    (k : ∀ s₁, Ext κ.T h s₁.heap → Ex κ (n + 7) s₁.heap Tr s₁ (lawEnv f L tl pm doc) (restD ws) ((dAt 10).body.drop 21) (rt κ Tr s₁ (Is (.bool true)))) :
    Ex κ (n + 7) h V s₀ (lawEnv f L tl pm doc) [("down", .list (nums (natI (dnS (rkl ws))))), ("up", .list (nums (natI (upS (rkl ws))))), ("two", .list ((twoM ws).map lst)), ("told", .list (((ords 4).map (reckL ws)).map strD)), ("parts", .list (ws.map fun w => partD (partL w))), ("pieces", .list ((ws.map quoL).map strD)), ("words", .list (ws.map strD))] ((dAt 10).body.drop 18) (rt κ V s₀ (Is (.bool true))) := by
  intro A s rm F
  have hw4 := W.len
  refine Classical.byContradiction fun nay => ?_
  obtain ⟨ρ, G, H⟩ := id F.ex
  obtain ⟨fc, pc, dc, gc, fc0⟩ := T.cmp
  obtain ⟨o, ho, hd⟩ := id fc0.at_
  refine nay ?_
  clear nay
  have T' := T.ext F.ext
  refine as_val F (x := "key") (P := fun v s1 => ∃ a fl fd N D C fi mm, v = .ref a ∧ KAt s1.heap a (.ref fl) N D C fi mm ∧ ¬ Loc (lawEnv f L tl pm doc) N ∧ ¬ Loc (lawEnv f L tl pm doc) C ∧ s1.heap.get? fl = some (fnObj fd) ∧ CodeOk s1.heap fd.code fd.qualname ∧
      ∀ h', h'.get? fl = some (fnObj fd) → CodeOk h' fd.code fd.qualname → Fd κ h' (lawEnv f L tl pm doc) [("two", .list ((twoM ws).map lst))] → ∀ as r, CmpG (upInts 4) (cmpE ws) as r → Fun κ (n + 6) h' (.ref fl) (Iss as) (Is r)) ?_ fun v s1 s2 P1 l1 F2 e12 lo1 => ?_
  · refine wpAny_Call_NameR (wpAny_Name (F.fd.glob gc rfl A _ _ s F.at.ext ?_) (by decide))
    refine callWith_function (o := o) (fd := fAt 0 pc (.ref t.ck) dc) ?_
    refine evalArgs_plain (EvL.go (evl_one (ev_lamRaw (m := n + 5) (xs := ["one", "other"]) (δc := [("two", .list ((twoM ws).map lst))]) (δ0 := [("two", .list ((twoM ws).map lst))]) (G := CmpG (upInts 4) (cmpE ws)) F.fd (T'.ct.bm) hT hgd htl (by intro p; rw [hql]; rfl) rfl rfl rfl rfl (clB3 rfl (by exact fun z => by cases z) rfl) ⟨rfl, trivial⟩ (fun as r zz => by obtain ⟨i, _, j, _, e, _⟩ := zz; exact by rw [e]; rfl) (fun ctv code pm doc vs hvs => ?_) (nd2 (d := .none) (d' := .none) rfl) fun C f ctv code pm doc h'' as r g F2 => ?_) LamRaw.per) _ rm F.at fun vs s3 pv l3 y3 => ?_)
    · refine Classical.byContradiction fun nay => ?_
      obtain ⟨v, u, rfl⟩ := len2 hvs
      refine nay ?_
      clear nay
      rfl
    · refine Classical.byContradiction fun nay => ?_
      obtain ⟨i, hi, j, hj, rfl, rfl⟩ := g
      refine nay ?_
      clear nay
      exact ev_sub_int (ev_two F2 hw4 rfl (ev_loc F2 rfl) (ev_loc F2 rfl) (mem_up hi) (mem_up hj) rfl) (ev_two F2 hw4 rfl ev_int ev_int (by decide) (by decide) rfl)
    · refine Classical.byContradiction fun nay => ?_
      obtain ⟨v, rfl, fl, fd, rfl, hfl, hcd, hΦ⟩ := pv
      refine nay ?_
      clear nay
      refine ⟨⟨Ext.get_data (F.ext.trans y3.ext) ho fun vs q => (by rw [hd] at q; cases q), hd⟩, ?_⟩
      have c := cmp_ok (κ := κ) (n := n + 4) (v := .ref fl) b fc0 T.ct hT hgd hkp hqk A s3 (fun b => ¬ Loc (lawEnv f L tl pm doc) b) [.ref fl] rm ⟨F.ext.trans y3.ext, y3.tk, y3.ok, fun x hx lx => ?_⟩ (.cons (.val _) .nil)
      · refine wpAny_mono c (fun u s4 q => ?_) fun _ _ f => f
        refine Classical.byContradiction fun nay => ?_
        obtain ⟨⟨a, rfl, N, D, C, fi, mm, K, nN, nC⟩, l4⟩ := q
        refine nay ?_
        clear nay
        exact ⟨⟨a, fl, fd, N, D, C, fi, mm, rfl, K, nN, nC, Ext.get l4.ext hfl (fun z => by cases z), hcd.ext l4.ext, hΦ⟩, l3.trans l4⟩
      · rcases hx with hx | hx
        · refine notLoc G x (fun q => hx (Ext.back G.y.ext q)) lx
        · refine Classical.byContradiction fun nay => ?_
          obtain ⟨o', e', _⟩ := G.locAt x lx
          refine nay ?_
          clear nay
          rw [Ext.back l3.ext hx] at e'; cases e'
  · refine Classical.byContradiction fun nay => ?_
    obtain ⟨a, fl, fd, N, D, C, fi, mm, rfl, K, nN, nC, hfl, hcd, hΦ⟩ := P1
    refine nay ?_
    clear nay
    have res : wpAny κ.M A (execs ((dAt 10).body.drop 19) (lawEnv f L tl pm doc)) (fun fl s' => rt κ V s₀ (Is (.bool true)) fl s' ∧ ExtB κ.T (Loc (lawEnv f L tl pm doc)) s2.heap s'.heap) (fun _ _ => False) s2 := by
      refine rebase F2 fun e1 F3 => ?_
      refine Classical.byContradiction fun nay => ?_
      obtain ⟨ρ2, G2, _⟩ := id F2.ex
      refine nay ?_
      clear nay
      have K1 := K.cut G l1 e12 nN nC
      have nlf : ∀ {b o}, s1.heap.get? b = some o → (∀ es ep, o.data ≠ .dict es ep) → (∀ u, o.data ≠ .cell u) → ¬ Loc (lawEnv f L tl pm doc) b := fun {b o} e nd ncl lb => by
        refine Classical.byContradiction fun nay => ?_
        obtain ⟨o', e', hd⟩ := G.locAt' b lb
        refine nay ?_
        clear nay
        have e1 := Ext.get_data l1.ext e' (by rcases hd with ⟨_, _, q⟩ | ⟨_, q⟩ <;> rw [q] <;> exact fun vs z => by cases z)
        rw [e] at e1; cases e1
        rcases hd with ⟨_, _, q⟩ | ⟨_, q⟩
        · exact nd _ _ q
        · exact ncl _ q
      have nl1 := nlf hfl (fun _ _ z => by cases z) (fun _ z => by cases z)
      have hfl1 : (cutS (lawEnv f L tl pm doc) s2).heap.get? fl = some (fnObj fd) := (cutH_yes (K := fun b => ¬ Loc (lawEnv f L tl pm doc) b) nl1).trans (ExtB.get e12 nl1 hfl fun z => by cases z)
      have hcd1 : CodeOk (cutS (lawEnv f L tl pm doc) s2).heap fd.code fd.qualname := by
        refine Classical.byContradiction fun nay => ?_
        obtain ⟨c, oc, vs, tt, q1, q2, q3, q4, q5⟩ := hcd.ok
        refine nay ?_
        clear nay
        have nl2 := nlf q2 (fun _ _ z => by rw [q4] at z; cases z) (fun _ z => by rw [q4] at z; cases z)
        exact ⟨c, oc, vs, tt, q1, (cutH_yes (K := fun b => ¬ Loc (lawEnv f L tl pm doc) b) nl2).trans (ExtB.get e12 nl2 q2 (by rw [q3]; exact fun z => by cases z)), q3, q4, q5⟩
      refine wpAny_mono (law_keys (n := n + 5) (a := a) (fl := fl) (Q := rt κ Tr (cutS (lawEnv f L tl pm doc) s2) (Is (.bool true))) (T.ext e1) W ⟨N, D, C, fi, mm, K1⟩ ⟨_, _, hfl1, rfl⟩ (fun h' kk F' => hΦ h' (Ext.get kk hfl1 fun z => by cases z) (hcd1.ext kk) F') (k _ e1) A s2 rm (F3.weak ⟨rfl, rfl, rfl, rfl, rfl, rfl, rfl, rfl, trivial⟩)) (fun fl s' q => ⟨rt_cutS (fun W W' v h' p => by cases p; exact .bool _) G2 q.1, q.2⟩) fun _ _ f => f
    exact wpAny_mono res (fun fl s' q => ⟨q.1, ((l1.toB (X := Loc (lawEnv f L tl pm doc))).ext.trans e12).trans q.2⟩) fun _ _ f => f
end Mine
end
section
open PySem PySem.W PySem.W.X PyProof.Rows PySem.Calls
set_option Elab.async false
set_option maxRecDepth 100000
set_option maxHeartbeats 1000000
namespace Mine
variable {κ : Cx} {h : Heap} {n m : Nat} {t : Tx} {tj ta tl : Tab} {lo : Prop} {V : Addr → Prop} {s₀ : Shared} {Q : Flow → Shared → Prop} {f L : Addr} {pm doc : Value} {env : Env} {δ : Del}
/-! ## the end -/
noncomputable def fMx (a b : Int) : Int := if a < b then b else a
noncomputable def fMn (a b : Int) : Int := if a < b then a else b
noncomputable def foldF (g : Int → Int → Int) (l : List Int) : Int := l.tail.foldl g (l.headD 0)
theorem foldF_snoc (g : Int → Int → Int) (x : Int) : ∀ l : List Int, l ≠ [] → foldF g (l ++ [x]) = g (foldF g l) x
  | [], h => absurd rfl h
  | a :: r, _ => by
    show (r ++ [x]).foldl g a = g (r.foldl g a) x
    rw [List.foldl_append]; rfl
theorem fold_mem {g : Int → Int → Int} (hg : ∀ a b, g a b = a ∨ g a b = b) : ∀ (l : List Int) (a : Int), l.foldl g a ∈ a :: l
  | [], a => by simp
  | x :: l, a => by
    have := fold_mem hg l (g a x)
    rw [List.foldl_cons]
    rcases List.mem_cons.mp this with e | e
    · rw [e]
      rcases hg a x with q | q <;> rw [q] <;> simp
    · exact List.mem_cons_of_mem _ (List.mem_cons_of_mem _ e)
theorem fold_mx (l : List Int) : ∀ (a x : Int), x ∈ a :: l → x ≤ l.foldl fMx a := by
  induction l with
  | nil => exact fun a x h => Int.le_of_eq (List.mem_singleton.mp h)
  | cons y l ih =>
    intro a x h
    have h0 := ih (fMx a y) _ List.mem_cons_self
    have ha : a ≤ fMx a y ∧ y ≤ fMx a y := by
      unfold fMx
      split
      · exact ⟨by first | exact Int.le_refl _ | assumption | exact Int.le_of_lt ‹_› | omega, by first | exact Int.le_refl _ | assumption | exact Int.le_of_lt ‹_› | omega⟩
      · exact ⟨by first | exact Int.le_refl _ | assumption | exact Int.le_of_lt ‹_› | exact Int.not_lt.mp ‹_› | exact Int.le_of_lt (Int.not_le.mp ‹_›) | omega, by first | exact Int.le_refl _ | assumption | exact Int.not_lt.mp ‹_› | exact Int.le_of_lt (Int.not_le.mp ‹_›) | omega⟩
    rcases List.mem_cons.mp h with e | h
    · rw [e]; exact Int.le_trans ha.1 h0
    · rcases List.mem_cons.mp h with e | h
      · rw [e]; exact Int.le_trans ha.2 h0
      · exact ih _ x (List.mem_cons_of_mem _ h)
theorem fold_mn (l : List Int) : ∀ (a x : Int), x ∈ a :: l → l.foldl fMn a ≤ x := by
  induction l with
  | nil => exact fun a x h => Int.le_of_eq (List.mem_singleton.mp h).symm
  | cons y l ih =>
    intro a x h
    have h0 := ih (fMn a y) _ List.mem_cons_self
    have ha : fMn a y ≤ a ∧ fMn a y ≤ y := by
      unfold fMn
      split
      · exact ⟨by first | exact Int.le_refl _ | assumption | exact Int.le_of_lt ‹_› | omega, by first | exact Int.le_refl _ | assumption | exact Int.le_of_lt ‹_› | omega⟩
      · exact ⟨by first | exact Int.le_refl _ | assumption | exact Int.not_lt.mp ‹_› | exact Int.le_of_lt (Int.not_le.mp ‹_›) | omega, by first | exact Int.le_refl _ | assumption | exact Int.not_lt.mp ‹_› | exact Int.le_of_lt (Int.not_le.mp ‹_›) | omega⟩
    rcases List.mem_cons.mp h with e | h
    · rw [e]; exact Int.le_trans h0 ha.1
    · rcases List.mem_cons.mp h with e | h
      · rw [e]; exact Int.le_trans h0 ha.2
      · exact ih _ x (List.mem_cons_of_mem _ h)
theorem foldF_mx {l : List Int} {v : Int} (hv : v ∈ l) (h : ∀ x ∈ l, x ≤ v) : foldF fMx l = v := by
  cases l with
  | nil => cases hv
  | cons a r =>
    have h1 := fold_mx r a v hv
    have h2 := h _ (fold_mem (g := fMx) (fun a b => by unfold fMx; split <;> simp) r a)
    exact Int.le_antisymm h2 h1
theorem foldF_mn {l : List Int} {v : Int} (hv : v ∈ l) (h : ∀ x ∈ l, v ≤ x) : foldF fMn l = v := by
  cases l with
  | nil => cases hv
  | cons a r =>
    have h1 := fold_mn r a v hv
    have h2 := h _ (fold_mem (g := fMn) (fun a b => by unfold fMn; split <;> simp) r a)
    exact Int.le_antisymm h1 h2
noncomputable def sizesL (ws : List (List Nat)) : List Int := (ords 4).map fun o => ((reckL ws o).length : Nat)
theorem ev_eq_same {l r : Expr} {pos : Pos} {k : Nat} {a : Da} (h1 : Ev κ (n + 1) env h l (Is a)) (h2 : Ev κ (n + 1) env h r (Is a)) (x : Sh k a) (hk : k ≤ 64) (hm : behindInMarks .Eq r = false := by with_unfolding_all rfl) : Ev κ (n + 1) env h (.Compare l [.Eq] [r] pos) (Is (.bool true)) := by
  have := ev_eq (pos := pos) h1 h2 (x.shaped hk) (x.shaped hk) x.pu x.pu hm
  rwa [x.eqv] at this
theorem ends_ok {ws : List (List Nat)} (W : WsOk ws) {o : List Int} (ho : o ∈ ords 4) : o ≠ [] ∧ (∀ p ∈ o, p.toNat < ws.length) ∧ (lineL ws o).length ≤ 132 ∧ PyData.strOk (tx (lineL ws o)) = true ∧ PyData.strOk (tx (reckL ws o)) = true ∧ (reckL ws o).length ≤ 133 := by
  obtain ⟨a, b⟩ := ords4.1 o ho
  have hlt : ∀ p ∈ o, p.toNat < ws.length := fun p hp => by
    have := b p hp
    rw [W.len]; omega
  have hne : o ≠ [] := fun q => by rw [q] at a; cases a
  have hok : ∀ l ∈ o.map (fun p => quoL (wd ws p)), l.length ≤ 32 ∧ l.all okC = true := fun l hl => by
    refine Classical.byContradiction fun nay => ?_
    obtain ⟨p, hp, rfl⟩ := List.mem_map.mp hl
    refine nay ?_
    clear nay
    have hm := wd_mem (hlt p hp)
    exact ⟨ps_small W _ (List.mem_map_of_mem hm), quo_ok (W.ok _ hm)⟩
  have h1 := joinL_le (o.map fun p => quoL (wd ws p)) 32 fun l hl => (hok l hl).1
  rw [List.length_map, a] at h1
  have h2 : (lineL ws o).all okC = true := joinL_okC _ rfl _ fun l hl => (hok l hl).2
  have e := told_line (ws := ws) (tl := []) rfl o hne hlt
  rw [List.append_nil] at e
  refine ⟨hne, hlt, h1, by rw [strOk_tx]; exact h2, by rw [strOk_tx, ← e]; exact told_okC _ _ (Nat.le_refl _) h2, ?_⟩
  rw [← e]
  have := told_le _ (lineL ws o) (Nat.le_refl _)
  have h3 : (lineL ws o).length ≤ 132 := h1
  omega
theorem law_f {ws : List (List Nat)} {up dn : List Int} (T : LawTop κ t tj ta h) (W : WsOk ws) (hu : up ∈ ords 4) (hd : dn ∈ ords 4) (hT : κ.T = t.tb lo) (hlo : lo) (hgd : t.Good) (htj : tj ∈ t.tabs) (hta : ta ∈ t.tabs) (hqj : tj.q = qkOf qj1) (hqa : ta.q = qa1)
    (k : Ex κ (n + 7) h V s₀ (lawEnv f L tl pm doc) [("ends", .list ([reckL ws up, reckL ws dn].map strD)), ("down", lst dn), ("up", lst up), ("told", .list (((ords 4).map (reckL ws)).map strD)), ("parts", .list (ws.map fun w => partD (partL w)))] ((dAt 10).body.drop 24) Q) :
    Ex κ (n + 7) h V s₀ (lawEnv f L tl pm doc) [("down", lst dn), ("up", lst up), ("told", .list (((ords 4).map (reckL ws)).map strD)), ("parts", .list (ws.map fun w => partD (partL w))), ("pieces", .list ((ws.map quoL).map strD)), ("words", .list (ws.map strD))] ((dAt 10).body.drop 21) Q := by
  have hs : sizeLine = 16777216 := rfl
  have hw4 := W.len
  have e2 : ∀ g : List Int → Da, ([lst up, lst dn] : List Da).map (onL g) = [g up, g dn] := fun g => onL_map g [up, dn]
  have at2 : ∀ {i : Nat} {d : Da}, ([lst up, lst dn] : List Da)[i]? = some d → ∃ o, o ∈ ords 4 ∧ d = lst o := fun {i d} e => by
    rcases i with _ | _ | i
    · exact ⟨up, hu, (Option.some.inj e).symm⟩
    · exact ⟨dn, hd, (Option.some.inj e).symm⟩
    · cases e
  refine ex_of (d := .list ([lineL ws up, lineL ws dn].map strD)) (fun h' k F => ?_) ?_
  · show Core κ _ _ _ _ _ _ _ (.list [strD (lineL ws up), strD (lineL ws dn)])
    rw [← e2 fun o => strD (lineL ws o)]
    refine core_map (src_tup (ev_tup (evl_is (ev_loc F rfl) (evl_is (ev_loc F rfl) evl_is_nil)) (show 2 ≤ sizeLine by decide))) (show 2 ≤ sizeLine by decide) rfl (clB_one rfl (by exact fun z => by cases z)) fun C i d h' k' ed F' => ?_
    refine Classical.byContradiction fun nay => ?_
    obtain ⟨o, ho, rfl⟩ := at2 ed
    refine nay ?_
    clear nay
    rw [onL_lst]
    refine Classical.byContradiction fun nay => ?_
    obtain ⟨z1, z2, z3, z4, z5, z6⟩ := ends_ok W ho
    have T' := T.ext (k.trans k')
    obtain ⟨fj, pj, dj, gj, fj0⟩ := T'.sh.j
    obtain ⟨oj, hoj, hdj⟩ := id fj0.at_
    refine nay ?_
    clear nay
    have e1 : strD (lineL ws o) = .str (Txt.join (tx [32]) ((o.map fun p => wd ws p).map fun l => tx (quo unsA l))) := by
      have := join_tx [32] (o.map fun p => quoL (wd ws p))
      rw [List.map_map] at this ⊢
      exact congrArg Da.str this.symm
    have hjo : JoinOk (tx [32]) ((o.map fun p => wd ws p).map fun l => tx (quo unsA l)) = true := by
      have := joinOk_tx (z := [32]) (ls := o.map fun p => quoL (wd ws p)) (by
        have h1 := joinL_sum (o.map fun p => quoL (wd ws p)) (fun q => z1 (List.map_eq_nil_iff.mp q))
        have h2 : ∀ l : List (List Nat), (l.map List.length).sum + l.length * 1 = (l.map fun l => l.length + 1).sum := fun l => by
          induction l with
          | nil => rfl
          | cons a r ih => simp only [List.map_cons, List.sum_cons, List.length_cons] at ih ⊢; omega
        have h3 := h2 (o.map fun p => quoL (wd ws p))
        have h4 : (joinL [32] (o.map fun p => quoL (wd ws p))).length ≤ 132 := z3
        simp only [List.length_singleton]
        omega)
      rw [List.map_map] at this ⊢
      exact this
    rw [e1]
    refine ev_call_f (F'.glob gj) hoj hdj (evl_d (d := .list ((o.map fun p => wd ws p).map fun l => .str (tx l))) (ev_picked (g := id) F' (ords4.1 o ho).2 hw4 (by rw [(ords4.1 o ho).1]; exact Nat.le_refl _) (ev_loc F' rfl) (by rw [List.map_id]; rfl) rfl (clB_one rfl (by exact fun z => by cases z)) (fun _ => rfl) (fun _ => rfl) rfl rfl)) (join_ok (n := n + 2) F'.base fj0 T'.sh hT hlo hgd htj hqj (fun l hl => ?_) (by rw [List.length_map, (ords4.1 o ho).1]; decide) hjo)
    refine Classical.byContradiction fun nay => ?_
    obtain ⟨p, hp, rfl⟩ := List.mem_map.mp hl
    refine nay ?_
    clear nay
    have := W.small _ (wd_mem (z2 p hp))
    omega
  have sh : Sh 1 (.list ([lineL ws up, lineL ws dn].map strD)) := .list (.cons (.str (ends_ok W hu).2.2.2.1) (.cons (.str (ends_ok W hd).2.2.2.1) .nil))
  refine ex_skip (fun h' k F => evb_ne_same (k := 1) (ev_loc F rfl) (evd_of F (core_map (f := onL fun o => strD (lineL ws o)) (src_tup (ev_tup (evl_is (ev_loc F rfl) (evl_is (ev_loc F rfl) evl_is_nil)) (show 2 ≤ sizeLine by decide))) (show 2 ≤ sizeLine by decide) rfl (clB_one rfl (by exact fun z => by cases z)) fun C i d h' k' ed F' => ?_)) sh (by rw [e2]; rfl) (by decide)) ?_
  · refine Classical.byContradiction fun nay => ?_
    obtain ⟨o, ho, rfl⟩ := at2 ed
    refine nay ?_
    clear nay
    rw [onL_lst]
    refine Classical.byContradiction fun nay => ?_
    obtain ⟨z1, z2, z3, z4, z5, z6⟩ := ends_ok W ho
    refine nay ?_
    clear nay
    exact ev_laid (n := n + 4) F' (T.ext (k.trans k')) hT hgd hta hqa (ev_picked F' (ords4.1 o ho).2 hw4 (by rw [(ords4.1 o ho).1]; exact Nat.le_refl _) (ev_loc F' rfl) rfl rfl (clB_one rfl (by exact fun z => by cases z)) (fun _ => rfl) (fun _ => rfl) rfl rfl) (fun q => z1 (List.map_eq_nil_iff.mp q)) (by rw [List.length_map, (ords4.1 o ho).1]; exact Nat.le_refl _) fun l hl => by
      refine Classical.byContradiction fun nay => ?_
      obtain ⟨p, hp, rfl⟩ := List.mem_map.mp hl
      refine nay ?_
      clear nay
      exact ps_small W _ (List.mem_map_of_mem (wd_mem (z2 p hp)))
  refine ex_of (d := .list ([reckL ws up, reckL ws dn].map strD)) (fun h' k F => ?_) (ex_weak (δ' := [("ends", .list ([reckL ws up, reckL ws dn].map strD)), ("down", lst dn), ("up", lst up), ("told", .list (((ords 4).map (reckL ws)).map strD)), ("parts", .list (ws.map fun w => partD (partL w)))]) ⟨rfl, rfl, rfl, rfl, rfl, trivial⟩ k)
  have e3 : ([reckL ws up, reckL ws dn].map strD) = ([lineL ws up, lineL ws dn].map strD).map (onT fun l => strD (told (l ++ [34]))) := by
    rw [onT_map]
    show [strD (reckL ws up), strD (reckL ws dn)] = [strD (told (lineL ws up ++ [34])), strD (told (lineL ws dn ++ [34]))]
    refine Classical.byContradiction fun nay => ?_
    obtain ⟨z1, z2, _⟩ := ends_ok W hu
    obtain ⟨y1, y2, _⟩ := ends_ok W hd
    refine nay ?_
    clear nay
    rw [told_line (by rfl) up z1 z2, told_line (by rfl) dn y1 y2]
  rw [e3]
  refine core_map (src_list (ev_loc F rfl)) (show 2 ≤ sizeLine by decide) rfl clB_nil fun C i d h' k' ed F' => ?_
  refine Classical.byContradiction fun nay => ?_
  obtain ⟨l, hl, rfl⟩ := lists_at ed
  refine nay ?_
  clear nay
  rw [onT_tx]
  have hl2 : l.length ≤ 132 := by
    simp only [List.mem_cons, List.not_mem_nil, or_false] at hl
    rcases hl with rfl | rfl
    · exact (ends_ok W hu).2.2.1
    · exact (ends_ok W hd).2.2.1
  have e4 : (tx (50 :: 53 :: 55 :: 32 :: 34 :: (l ++ [34])) : Str) = tx [50, 53, 55, 32, 34] ++ tx l ++ tx [34] := by rw [tx_add, tx_add]; rfl
  refine ev_df F' (T.p257.ext (k.trans k')) (evl_d (d := .str (tx (50 :: 53 :: 55 :: 32 :: 34 :: (l ++ [34])))) ?_) (fun f p c d fa => parse_ok F'.base fa T.len (by rw [List.length_append, List.length_singleton]; omega))
  rw [e4]
  refine ev_add_str (ev_add_str (ev_str' lit257q) (ev_loc F' rfl) ?_) (ev_str' litMark) ?_
  · rw [tx_length, tx_length]; simp only [List.length_cons, List.length_nil]; omega
  · rw [tx_add, tx_length, tx_length, List.length_append]; simp only [List.length_cons, List.length_nil]; omega
end Mine
end
section
open PySem PySem.W PySem.W.X PyProof.Rows PySem.Calls
set_option Elab.async false
set_option maxRecDepth 100000
set_option maxHeartbeats 1000000
namespace Mine
variable {κ : Cx} {h : Heap} {n m : Nat} {t : Tx} {tj ta tl : Tab} {lo : Prop} {V : Addr → Prop} {s₀ : Shared} {Q : Flow → Shared → Prop} {f L : Addr} {pm doc : Value} {env : Env} {δ : Del}
/-- reduce(lambda one, other: .., ints) -/
theorem ev_fold {p pos : Pos} {lam seq : Expr} {ns : List Int} {g : Int → Int → Int} (F : Fd κ h env δ) (R : RedTop κ h) (hne : ns ≠ []) (b : Ev κ (n + 1) env h seq (Is (.list (nums ns))))
    (a : Ev κ (n + 1) env h lam (LamN κ n (FoldG (nums ns) fun i => .int (foldF g (ns.take i)))))
    (hk : env.kindOf "reduce" = some .globalImplicit := by rfl)
    (he : ∀ pos, backTo pos (starEach [lam, seq] env) = (false, eval lam env) :: backTo pos (starEach [seq] env) := by intro _; rfl) (he' : ∀ pos, backTo pos (starEach [seq] env) = (false, eval seq env) :: backTo pos (starEach [] env) := by intro _; rfl) :
    Ev κ (n + 1) env h (.Call (.Name "reduce" p) [lam, seq] [] pos) (Is (.int (foldF g ns))) := by
  have := ev_reduce (p := p) (pos := pos) (fold := fun i => .int (foldF g (ns.take i))) F R a b (by
    cases ns with
    | nil => exact absurd rfl hne
    | cons a r => rfl) Flat.int hk he he'
  rwa [List.length_map, List.take_length] at this
theorem fold_step {g : Int → Int → Int} {ns : List Int} {as : List Da} {r : Da} (h : FoldG (nums ns) (fun i => .int (foldF g (ns.take i))) as r) : ∃ a b, as = [.int a, .int b] ∧ r = .int (g a b) := by
  obtain ⟨i, d, hi, e, rfl, rfl⟩ := h
  obtain ⟨x, hx, rfl⟩ := nums_at e
  have hlt := (List.getElem?_eq_some_iff.mp hx).1
  refine ⟨_, x, rfl, ?_⟩
  show Da.int (foldF g (ns.take (i + 1))) = _
  rw [List.take_add_one, hx]
  show Da.int (foldF g (ns.take i ++ [x])) = _
  rw [foldF_snoc _ _ _ (List.ne_nil_of_length_pos (by rw [List.length_take]; omega))]
theorem law_g {ws : List (List Nat)} {up dn : List Int} (T : LawTop κ t tj ta h) (W : WsOk ws) (hu : up ∈ ords 4) (hd : dn ∈ ords 4) (hmost : ∀ o ∈ ords 4, (reckL ws o).length ≤ (reckL ws up).length) (hleast : ∀ o ∈ ords 4, (reckL ws dn).length ≤ (reckL ws o).length) (hT : κ.T = t.tb lo) (hgd : t.Good) (htl : tl ∈ t.tabs) (hql : tl.q = ql1) :
    Ex κ (n + 7) h V s₀ (lawEnv f L tl pm doc) [("ends", .list ([reckL ws up, reckL ws dn].map strD)), ("down", lst dn), ("up", lst up), ("told", .list (((ords 4).map (reckL ws)).map strD)), ("parts", .list (ws.map fun w => partD (partL w)))] ((dAt 10).body.drop 24) (rt κ V s₀ (Is (.bool true))) := by
  have hs : sizeLine = 16777216 := rfl
  have hsz : ∀ {o}, o ∈ ords 4 → (reckL ws o).length ≤ 133 := fun ho => (ends_ok W ho).2.2.2.2.2
  refine ex_of (d := .list (nums (sizesL ws))) (fun h' k F => ?_) ?_
  · have e : nums (sizesL ws) = (((ords 4).map (reckL ws)).map strD).map (onT fun l => .int (l.length : Nat)) := by
      rw [onT_map, List.map_map]
      unfold nums sizesL
      rw [List.map_map]; rfl
    rw [e]
    refine core_map (src_list (ev_loc F rfl)) (by rw [List.length_map, List.length_map, ords4.2]; omega) rfl clB_nil fun C i d h' k' ed F' => ?_
    obtain ⟨l, hl, rfl⟩ := lists_at ed
    obtain ⟨o, ho, rfl⟩ := List.mem_map.mp hl
    have := hsz ho
    rw [onT_tx]
    have z := fun_len_str (κ := κ) (n := n + 7) (h := h') (x := tx (reckL ws o)) (by rw [tx_length]; omega)
    rw [tx_length] at z
    exact ev_call_b (F'.blt T.len) (evl_one (ev_loc F' rfl) Is.per) z
  have hne : sizesL ws ≠ [] := fun q => by
    have := congrArg List.length q
    rw [show (sizesL ws).length = (ords 4).length from List.length_map _, ords4.2] at this
    cases this
  refine ex_assign' (d := .int (foldF fMx (sizesL ws))) (fun h' k F => ev_fold (n := n + 6) F (T.red.ext k) hne (ev_loc F rfl) (ev_lamN (m := n + 5) (xs := ["one", "other"]) (δc := []) F (T.ct.bm.ext k) hT hgd htl (by intro p; rw [hql]; rfl) rfl rfl rfl rfl (fun x a e => by cases e) trivial (fun as r g => by obtain ⟨a, b, e, _⟩ := fold_step g; rw [e]; rfl) (fun ctv code pm doc vs hvs => ?_) (nd2 (d := .none) (d' := .none) rfl) fun C f ctv code pm doc h'' as r g k2 F2 => ?_)) ?_
  · obtain ⟨v, u, rfl⟩ := len2 hvs
    rfl
  · obtain ⟨a, b, rfl, rfl⟩ := fold_step g
    unfold fMx
    refine ev_ifexp (b := decide (a < b)) (evb_lt_int (ev_loc F2 rfl) (ev_loc F2 rfl) rfl) (fun hb => ?_) fun hb => ?_
    · rw [if_pos (by simpa using hb)]; exact ev_loc F2 rfl
    · rw [if_neg (by simpa using hb)]; exact ev_loc F2 rfl
  refine ex_assign' (d := .int (foldF fMn (sizesL ws))) (fun h' k F => ev_fold (n := n + 6) F (T.red.ext k) hne (ev_loc F rfl) (ev_lamN (m := n + 5) (xs := ["one", "other"]) (δc := []) F (T.ct.bm.ext k) hT hgd htl (by intro p; rw [hql]; rfl) rfl rfl rfl rfl (fun x a e => by cases e) trivial (fun as r g => by obtain ⟨a, b, e, _⟩ := fold_step g; rw [e]; rfl) (fun ctv code pm doc vs hvs => ?_) (nd2 (d := .none) (d' := .none) rfl) fun C f ctv code pm doc h'' as r g k2 F2 => ?_)) ?_
  · obtain ⟨v, u, rfl⟩ := len2 hvs
    rfl
  · obtain ⟨a, b, rfl, rfl⟩ := fold_step g
    unfold fMn
    refine ev_ifexp (b := decide (a < b)) (evb_lt_int (ev_loc F2 rfl) (ev_loc F2 rfl) rfl) (fun hb => ?_) fun hb => ?_
    · rw [if_pos (by simpa using hb)]; exact ev_loc F2 rfl
    · rw [if_neg (by simpa using hb)]; exact ev_loc F2 rfl
  have mem : ∀ {o}, o ∈ ords 4 → (((reckL ws o).length : Nat) : Int) ∈ sizesL ws := fun ho => List.mem_map_of_mem (f := fun o => (((reckL ws o).length : Nat) : Int)) ho
  rw [foldF_mx (v := ((reckL ws up).length : Nat)) (mem hu) fun x hx => by
      obtain ⟨o, ho, rfl⟩ := List.mem_map.mp hx
      have := hmost o ho
      omega,
    foldF_mn (v := ((reckL ws dn).length : Nat)) (mem hd) fun x hx => by
      obtain ⟨o, ho, rfl⟩ := List.mem_map.mp hx
      have := hleast o ho
      omega]
  have rk : ∀ {h' : Heap} {δ' : Del} {o : List Int} {x : Str} {p1 p2 p3 p4 : Pos}, o ∈ ords 4 → Ext κ.T h h' → Fd κ h' (lawEnv f L tl pm doc) δ' → δ'.lookup x = some (lst o) → δ'.lookup ("parts" : Str) = some (.list (ws.map fun w => partD (partL w))) → liesB (lawEnv f L tl pm doc) x = true → (x == ("__debug__" : Str)) = false →
      Ev κ (n + 7) (lawEnv f L tl pm doc) h' (.Call (.Name "_law_reckoned" p1) [.Name x p2, .Name "parts" p3] [] p4) (Is (strD (reckL ws o))) := fun {h' δ' o x p1 p2 p3 p4} ho k F a1 a2 a3 a4 =>
    ev_df F (T.reck.ext k) (evl_is (d := lst o) (ev_loc F a1 a3 a4) (evl_d (d := .list ((ws.map partL).map partD)) (by rw [List.map_map]; exact ev_loc F a2 rfl))) fun f p c d fa => reckoned_ok (n := n + 6) F.base fa (fun p hp => by
      have := (ords4.1 o ho).2 p hp
      rw [List.length_map, W.len]
      exact ⟨this.1, by omega, by omega⟩) (by rw [(ords4.1 o ho).1]; decide) fun x hx => by
      obtain ⟨w, hw, rfl⟩ := List.mem_map.mp hx
      have := part_len w
      have := W.small w hw
      omega
  have sh1 : Sh 1 (.list ([reckL ws up, reckL ws dn].map strD)) := .list (.cons (.str (ends_ok W hu).2.2.2.2.1) (.cons (.str (ends_ok W hd).2.2.2.2.1) .nil))
  have sh2 : Sh 1 (.list (nums [((reckL ws up).length : Nat), ((reckL ws dn).length : Nat)])) := Sh.nums
  refine ex_ret' (fun h' k F => ev_and (a := true) (b := true) (ev_eq_same (k := 1) (ev_loc F rfl) (ev_list (evl_is (rk hu k F rfl rfl rfl (by decide)) (evl_is (rk hd k F rfl rfl rfl (by decide)) evl_is_nil)) (show 2 ≤ sizeLine by decide)) sh1 (by decide)) fun _ => ev_eq_same (k := 1) ?_ (ev_list (evl_is (ev_loc F rfl) (evl_is (ev_loc F rfl) evl_is_nil)) (show 2 ≤ sizeLine by decide)) sh2 (by decide)) fun v s' p l => ret_ok p l
  have e : nums [((reckL ws up).length : Nat), ((reckL ws dn).length : Nat)] = ([reckL ws up, reckL ws dn].map strD).map (onT fun l => .int (l.length : Nat)) := by rw [onT_map]; rfl
  show Ev κ _ _ h' _ (Is (.list (nums [((reckL ws up).length : Nat), ((reckL ws dn).length : Nat)])))
  rw [e]
  refine evd_of F (core_map (src_list (ev_loc F rfl)) (show 2 ≤ sizeLine by decide) rfl clB_nil fun C i d h' k' ed F' => ?_)
  obtain ⟨l, hl, rfl⟩ := lists_at ed
  have hl2 : l.length ≤ 133 := by
    simp only [List.mem_cons, List.not_mem_nil, or_false] at hl
    rcases hl with rfl | rfl
    · exact hsz hu
    · exact hsz hd
  rw [onT_tx]
  have z := fun_len_str (κ := κ) (n := n + 7) (h := h') (x := tx l) (by rw [tx_length]; omega)
  rw [tx_length] at z
  exact ev_call_b (F'.blt T.len) (evl_one (ev_loc F' rfl) Is.per) z
theorem law_ok {f : Addr} {pm doc : Value} {ns : List Int} (b : Base κ h) (fa : FnAt h f (fAt 10 pm (.ref tl.c) doc)) (T : LawTop κ t tj ta h) (hT : κ.T = t.tb lo) (hlo : lo) (hgd : t.Good) (htj : tj ∈ t.tabs) (hta : ta ∈ t.tabs) (htl : tl ∈ t.tabs) (hqj : tj.q = qkOf qj1) (hqa : ta.q = qa1) (hql : tl.q = ql1) (hkp : t.kpos = ⟨5, 4, 26, 23⟩) (hqk : t.qk = qkOf qk1) (hz : ns.length ≤ 63) :
    Fun κ (n + 8) h (.ref f) (Iss [.list (nums ns)]) (Is (.bool true)) := by
  refine fun_data (n := n + 7) (xs := ["script"]) (body := (dAt 10).body) b fa rfl rfl rfl rfl rfl rfl rfl ?_ nd1 ?_ fun V s₀ y => ?_
  · intro vs hv
    obtain ⟨v, rfl⟩ := List.length_eq_one_iff.mp hv
    rfl
  · intro x hx L
    simp only [List.mem_cons, List.not_mem_nil, or_false] at hx
    subst hx
    rfl
  have W := wordsOk ns
  have S := sorts W
  refine law_a T hz (law_b T W (law_c T W hT hgd hta hqa (law_d1 T W S hT hgd htl hql hkp hqk (law_d2 T W S hT hgd htl hql (law_e b T W hT hgd htl hql hkp hqk fun s₁ e1 => ?_)))))
  have T1 := T.ext e1
  exact law_f T1 W S.ou S.od hT hlo hgd htj hta hqj hqa (law_g T1 W S.ou S.od S.most S.least hT hgd htl hql)
end Mine
end
section
open PySem PySem.W PySem.W.X PyProof.Rows PySem.Calls
set_option Elab.async false
set_option maxRecDepth 100000
set_option maxHeartbeats 1000000
namespace Mine
/-! ## from the top's objects to what the law asks -/
variable {κ : Cx} {h : Heap} {mg mb : Str → Option Value}
theorem ns_at {a : Addr} {m : Str → Option Value} {o : Obj} {es : Array DictEntry} {ep : Nat} {x : Str} {v : Option Value} (hn : h.Ns a m) (ho : h.get? a = some o) (hd : o.data = .dict es ep) (e : nsFind es x = v) : m x = v := by
  obtain ⟨o', es', ep', e1, e2, _, r⟩ := hn
  rw [ho] at e1; cases e1
  rw [hd] at e2; cases e2
  rw [← r]; exact e
theorem fnAt_of {f c : Addr} {o oc : Obj} {fd fd' : FuncData} {vs : Array Value} {t : Tok} (ho : h.get? f = some o) (hd : o.data = .func fd) (hc : h.get? c = some oc) (hcl : oc.cls = .type "code") (hdc : oc.data = .fields vs)
    (e : fd = fd') (ec : fd.code = .ref c) (h1 : vs[1]? = some (.str fd.qualname t)) : FnAt h f fd' := by
  subst e
  exact ⟨⟨o, ho, hd⟩, ⟨c, oc, vs, t, ec, hc, hcl, hdc, h1⟩⟩
theorem codesAt {c P : Addr} {q : Pos → Str} {oc : Obj} {vs : Array Value} {file : Str} {tf tg tt : Tok} {flags text : Int} {inF : Bool} (ho : h.get? c = some oc) (hc : oc.cls = .type "code") (hd : oc.data = .fields vs) (hP : h.get? P = some (tableObj #[]))
    (h11' : vs[11]? = some (.ref P)) (h18 : vs.getD 18 .none = .str file tf) (h7 : vs.getD 7 .none = .int flags tg) (h9 : vs.getD 9 .none = .bool inF) (h10 : vs.getD 10 .none = .int text tt) (hne : c ≠ P) : Codes h c P q := by
  refine ⟨#[], ⟨oc, vs, file, tf, flags, tg, inF, text, tt, _, ho, hd, ?_, h18, h7, h9, h10, hP, rfl, trivial, hne⟩, ⟨⟨oc, vs, ho, hc, hd, h11'⟩, hP⟩, fun pos v z => by simp [codeAmong] at z⟩
  rw [Array.getD_eq_getD_getElem?, h11']; rfl
/-! ## the same, with no object of the top written out -/
noncomputable def oD (K : Frag) (a : Addr) : Obj := (K.lookup a).getD default
noncomputable def fdD (K : Frag) (a : Addr) : FuncData := match (oD K a).data with | .func fd => fd | _ => default
noncomputable def vsD (K : Frag) (a : Addr) : Array Value := match (oD K a).data with | .fields vs => vs | _ => #[]
noncomputable def esD (K : Frag) (a : Addr) : Array DictEntry := match (oD K a).data with | .dict es _ => es | _ => #[]
noncomputable def epD (K : Frag) (a : Addr) : Nat := match (oD K a).data with | .dict _ ep => ep | _ => 0
noncomputable def sD : Option Value → Option Str | some (.str s _) => some s | _ => none
theorem sD_of {v : Option Value} {x : Str} (e : sD v = some x) : ∃ t, v = some (.str x t) := by
  unfold sD at e
  split at e
  · cases e; exact ⟨_, rfl⟩
  · cases e
noncomputable def lk (K : Frag) (a : Addr) : Bool := (K.lookup a).isSome
theorem oD_at {K : Frag} (kx : K.In h) (a : Addr) (e : lk K a = true) : h.get? a = some (oD K a) := by
  refine kx a _ ?_
  obtain ⟨o, ho⟩ := Option.isSome_iff_exists.mp e
  unfold oD
  rw [ho]; rfl
theorem kns {K : Frag} (kx : K.In h) (a : Addr) {m : Str → Option Value} {x : Str} {v : Option Value} (hn : h.Ns a m) (e1 : lk K a = true) (e2 : (oD K a).data = .dict (esD K a) (epD K a)) (e : nsFind (esD K a) x = v) : m x = v :=
  ns_at hn (oD_at kx a e1) e2 e
theorem kfnAt {K : Frag} (kx : K.In h) (f c : Addr) {fd : FuncData} (e1 : lk K f = true) (e2 : (oD K f).data = .func fd) (ec : fd.code = .ref c) (e3 : lk K c = true) (e4 : (oD K c).cls = .type "code") (e5 : (oD K c).data = .fields (vsD K c)) (e6 : sD ((vsD K c)[1]?) = some fd.qualname) : FnAt h f fd :=
  let ⟨_, e⟩ := sD_of e6
  fnAt_of (oD_at kx f e1) e2 (oD_at kx c e3) e4 e5 rfl ec e
noncomputable abbrev fK (K : Frag) (f c : Addr) (i : Nat) : FuncData := fAt i (fdD K f).pyModule (.ref c) (fdD K f).doc
theorem kdf {K : Frag} (kx : K.In h) (f c : Addr) (i : Nat) {name : Str} (g : κ.mg name = some (.ref f)) (e1 : lk K f = true) (e2 : (oD K f).data = .func (fK K f c i)) (e3 : lk K c = true) (e4 : (oD K c).cls = .type "code") (e5 : (oD K c).data = .fields (vsD K c)) (e6 : sD ((vsD K c)[1]?) = some (fK K f c i).qualname) : Df κ h i name :=
  ⟨f, _, _, _, g, kfnAt kx f c e1 e2 rfl e3 e4 e5 e6⟩
theorem kfn {K : Frag} (kx : K.In h) (f c : Addr) (i : Nat) (e1 : lk K f = true) (e2 : (oD K f).data = .func (fK K f c i)) (e3 : lk K c = true) (e4 : (oD K c).cls = .type "code") (e5 : (oD K c).data = .fields (vsD K c)) (e6 : sD ((vsD K c)[1]?) = some (fK K f c i).qualname) : FnAt h f (fK K f c i) :=
  kfnAt kx f c e1 e2 rfl e3 e4 e5 e6
theorem kfr {K : Frag} (kx : K.In h) (f c dt : Addr) (e1 : lk K f = true) (e2 : (oD K f).data = .func (fR (.ref dt) (fdD K f).pyModule (.ref c) (fdD K f).doc)) (e3 : lk K c = true) (e4 : (oD K c).cls = .type "code") (e5 : (oD K c).data = .fields (vsD K c)) (e6 : sD ((vsD K c)[1]?) = some (fR (.ref dt) (fdD K f).pyModule (.ref c) (fdD K f).doc).qualname) : FnAt h f (fR (.ref dt) (fdD K f).pyModule (.ref c) (fdD K f).doc) :=
  kfnAt kx f c e1 e2 rfl e3 e4 e5 e6
theorem Codes.isTable {c P : Addr} {q : Pos → Str} (x : Codes h c P q) : isCodeTable h P := by obtain ⟨_, _, b, _⟩ := x.ex; exact b.isCodeTable
theorem nums_py {vs : List Value} {ns : List Int} {P : Params} {V : Addr → Prop} (w : WellAll P h vs (ofPys (ns.map PyData.int))) : Dns V h vs (nums ns) := by
  induction ns generalizing vs with
  | nil => cases w; exact .nil
  | cons n ns ih =>
    cases w with
    | cons a b =>
      cases a
      exact .cons (.int _ _) (ih b)
theorem script_dn {P : Params} {a : Addr} {ns : List Int} (w : Well P h (.ref a) (ofPy (.list (ns.map PyData.int)))) : Dn Tr h (.ref a) (.list (nums ns)) := by
  simp only [ofPy] at w
  cases w with
  | list e r => exact .list trivial ⟨_, e⟩ (nums_py r)
noncomputable def tabJ : Tab := ⟨90, 86, qkOf qj1⟩
noncomputable def tabA : Tab := ⟨134, 130, qa1⟩
noncomputable def tabL : Tab := ⟨139, 137, ql1⟩
noncomputable def tx1 : Tx := { tabs := [tabJ, tabA, tabL], ck := 37, Pk := 33, kpos := ⟨5, 4, 26, 23⟩, qk := qkOf qk1, n0 := 142 }
theorem tabs3 {P : Tab → Prop} (h1 : P tabJ) (h2 : P tabA) (h3 : P tabL) : ∀ b ∈ tx1.tabs, P b := fun b hb => by
  simp only [tx1, List.mem_cons, List.not_mem_nil, or_false] at hb
  rcases hb with rfl | rfl | rfl
  · exact h1
  · exact h2
  · exact h3
theorem good1 : tx1.Good := ⟨tabs3 (by decide) (by decide) (by decide), tabs3 (by decide) (by decide) (by decide), tabs3 (tabs3 (fun _ => rfl) (fun e => absurd e (by decide)) (fun e => absurd e (by decide))) (tabs3 (fun e => absurd e (by decide)) (fun _ => rfl) (fun e => absurd e (by decide))) (tabs3 (fun e => absurd e (by decide)) (fun e => absurd e (by decide)) (fun _ => rfl)), by decide⟩
noncomputable abbrev cx1 (prog : Program) (w : World) (mg mb : Str → Option Value) : Cx := ⟨prog, w, tx1.tb True, mg, mb⟩
theorem fin1 {prog : Program} {w : World} {s₁ : Shared} {pm doc : Value} {P : Params} {ns : List Int} (b : Base (cx1 prog w mg mb) s₁.heap) (fa : FnAt s₁.heap 140 (fAt 10 pm (.ref tabL.c) doc)) (T : LawTop (cx1 prog w mg mb) tx1 tabJ tabA s₁.heap) (ok : Oks tx1 s₁.heap)
    (hsz : s₁.heap.objs.size = 141 + 1) (hg : s₁.gens = #[]) (htk : 0 < s₁.toks) (hl : ¬ ((63 : Nat) : Int) < ((ns.length : Nat) : Int)) (w1 : Well P s₁.heap (.ref 141) (ofPy (.list (ns.map PyData.int)))) :
    wpAny (model prog w) callerA (call (.ref 140) [.ref 141]) (fun v s' => v = .bool true ∧ OldK s₁.heap s'.heap ∧ s'.os = s₁.os ∧ AllBare s'.gens) (fun _ _ => False) s₁ := by
  have z := law_ok (κ := cx1 prog w mg mb) (t := tx1) (lo := True) (n := 0) (ns := ns) b fa T rfl trivial good1 (by simp [tx1]) (by simp [tx1]) (by simp [tx1]) rfl rfl rfl rfl rfl (by omega)
  have y : At (cx1 prog w mg mb) s₁.heap Tr s₁ := .self htk ok
  refine wpAny_mono (z callerA s₁ Tr [.ref 141] ⟨rfl, by decide +kernel, by decide +kernel⟩ y ?_) (fun v s' q => ?_) fun _ _ f => f.elim
  · exact .cons (script_dn w1) .nil
  · obtain ⟨d, l⟩ := q
    refine ⟨by cases d; rfl, ?_, l.os, l.gens (.of_eq hg)⟩
    refine Ext.oldK (T := tx1.tb True) (l := [86, 130, 137, 33]) (n := 142) (fun b hb hn => ?_) l.ext (by omega) fun b hb => ?_
    · rcases hb with ⟨d, hd, e⟩ | e | e
      · revert e
        exact tabs3 (P := fun d => b = d.P → b ∈ ([86, 130, 137, 33] : List Addr)) (fun e => e ▸ by decide) (fun e => e ▸ by decide) (fun e => e ▸ by decide) d hd
      · exact e ▸ by decide
      · exact absurd hn (Nat.not_lt_of_le e)
    · simp only [List.mem_cons, List.not_mem_nil, or_false] at hb
      rcases hb with rfl | rfl | rfl | rfl
      · exact (ok.tb tabJ (by simp [tx1])).isTable
      · exact (ok.tb tabA (by simp [tx1])).isTable
      · exact (ok.tb tabL (by simp [tx1])).isTable
      · exact ok.k.isTable
theorem good_true {c : ClaimW} {cl : Str → Option Addr} {mean : ExcName → Option Value} {args : List WData} {s₁ s' : Shared} {v : Value} (hr : ∀ cls, c.raises args cls = false) (hp : c.post args (.bool true) args = true)
    (q : v = .bool true ∧ OldK s₁.heap s'.heap ∧ s'.os = s₁.os ∧ AllBare s'.gens) : GoodWG c cl mean args s₁ (.ok (.ret v)) s' :=
  ⟨.inl ⟨.bool true, .bool true, [], by rw [q.1], hr, .bool true, hp, fun _ => ⟨List.nodup_nil, fun a ha => by cases ha⟩⟩, q.2⟩
end Mine
end
open PySem PySem.W PySem.W.X PySem.W.ZRun PyProof.Rows
set_option Elab.async false
set_option maxRecDepth 100000 in
set_option maxHeartbeats 8000000 in
theorem PySem.Challenge.cw_oy0029_01_holds : PySem.Challenge.rw_oy0029_01.Holds := by
  w_on; o_law; z_head; (case hw => w_witness2)
  k_fill
  intro w s₀ s₁ mg mb G y fa o pm cd doc dV kV ho hd hcd hD hmg hg args vals as L hpre hlay hrd hwl hlo
  z_open y L KX ZH ZN ZT
  refine Ground.open G ?_
  intro T B D TE TW
  wrow_args hpre hlay hrd hwl hlo
  obtain ⟨hat, hsz⟩ := script_at L
  have htk := script_toks L ZT
  rw [ZN] at hat hsz
  subst hat
  x_fa T KX hmg
  clear ho hd hcd hD D TE TW B
  have hmbm := T.bmain
  have k4 := KX 4 _ rfl
  have k33 := KX 33 _ rfl
  have k37 := KX 37 _ rfl
  have k40 := KX 40 _ rfl
  have k83 := KX 83 _ rfl
  have k84 := KX 84 _ rfl
  have k86 := KX 86 _ rfl
  have k90 := KX 90 _ rfl
  have k92 := KX 92 _ rfl
  have k130 := KX 130 _ rfl
  have k134 := KX 134 _ rfl
  have k137 := KX 137 _ rfl
  have k139 := KX 139 _ rfl
  have tg := T.g
  have tb := T.b
  have tl := T.nolimit
  clear T
  have bm : Mine.Bm (Mine.cx1 PySem.Challenge.rw_oy0029_01.row.prog w mg mb) s₁.heap := ⟨4, _, Mine.kns KX 3 tg (by kernel_rfl) (by kernel_rfl) (by kernel_rfl), by decide, k4, by kernel_rfl, by kernel_rfl, by kernel_rfl⟩
  have hpk : Mine.NoPack s₁.heap := by
    obtain ⟨mc, hc, _⟩ := tl
    exact ⟨mc, hc, Mine.kns KX 2 hc (by kernel_rfl) (by kernel_rfl) (by kernel_rfl)⟩
  have cj : Mine.Codes s₁.heap 90 86 (Mine.qkOf Mine.qj1) := Mine.codesAt k90 (by kernel_rfl) rfl k86 rfl rfl rfl rfl rfl (by decide)
  have ca : Mine.Codes s₁.heap 134 130 Mine.qa1 := Mine.codesAt k134 (by kernel_rfl) rfl k130 rfl rfl rfl rfl rfl (by decide)
  have cl : Mine.Codes s₁.heap 139 137 Mine.ql1 := Mine.codesAt k139 (by kernel_rfl) rfl k137 rfl rfl rfl rfl rfl (by decide)
  have ck : Mine.Codes s₁.heap 37 33 (fun _ => Mine.nameK) := Mine.codesAt k37 (by kernel_rfl) rfl k33 rfl rfl rfl rfl rfl (by decide)
  have ok : Mine.Oks Mine.tx1 s₁.heap := ⟨Mine.tabs3 cj ca cl, ck, fun ps e => .inl (Mine.tableObj_inj (e.symm.trans k33))⟩
  have srch : Mine.SrchAt s₁.heap 92 Mine.codeA := ⟨84, 83, _, _, _, _, _, _, k92, by kernel_rfl, by kernel_rfl, k84, by kernel_rfl, rfl, rfl, rfl, rfl, k83, rfl, by kernel_rfl⟩
  have shq : Mine.Df (Mine.cx1 PySem.Challenge.rw_oy0029_01.row.prog w mg mb) s₁.heap 3 "quote" := Mine.kdf KX 99 98 _ (Mine.kns KX 3 tg (by kernel_rfl) (by kernel_rfl) (by kernel_rfl)) (by kernel_rfl) (by kernel_rfl) (by kernel_rfl) (by kernel_rfl) (by kernel_rfl) (by kernel_rfl)
  have sh : Mine.ShTop (Mine.cx1 PySem.Challenge.rw_oy0029_01.row.prog w mg mb) Mine.tabJ s₁.heap Mine.unsA := ⟨bm, ⟨92, _, Mine.kns KX 3 tg (by kernel_rfl) (by kernel_rfl) (by kernel_rfl), srch, Mine.setA⟩, shq, ⟨91, _, _, Mine.kns KX 3 tg (by kernel_rfl) (by kernel_rfl) (by kernel_rfl), Mine.kfn KX 91 90 _ (by kernel_rfl) (by kernel_rfl) (by kernel_rfl) (by kernel_rfl) (by kernel_rfl) (by kernel_rfl)⟩⟩
  obtain ⟨o141, h141, _⟩ := ‹s₁.heap.IsList 141 _›
  have ct : Mine.CmpTop (Mine.cx1 PySem.Challenge.rw_oy0029_01.row.prog w mg mb) Mine.tx1 s₁.heap := ⟨bm, hpk, ⟨141, _, rfl, h141⟩, by decide, Mine.kns KX 3 tg (by kernel_rfl) (by kernel_rfl) (by kernel_rfl), Mine.kns KX 0 tb (by kernel_rfl) (by kernel_rfl) (by kernel_rfl), Mine.kns KX 0 tb (by kernel_rfl) (by kernel_rfl) (by kernel_rfl), ⟨_, _, Mine.kns KX 3 tg (by kernel_rfl) (by kernel_rfl) rfl⟩⟩
  have top : Mine.LawTop (Mine.cx1 PySem.Challenge.rw_oy0029_01.row.prog w mg mb) Mine.tx1 Mine.tabJ Mine.tabA s₁.heap := {
    sh := sh, ct := ct
    cmp := ⟨38, _, _, Mine.kns KX 3 tg (by kernel_rfl) (by kernel_rfl) (by kernel_rfl), Mine.kfn KX 38 37 _ (by kernel_rfl) (by kernel_rfl) (by kernel_rfl) (by kernel_rfl) (by kernel_rfl) (by kernel_rfl)⟩
    red := { red := ⟨47, 40, 39, _, _, _, Mine.kns KX 3 tg (by kernel_rfl) (by kernel_rfl) (by kernel_rfl), Mine.kfr KX 47 46 40 (by kernel_rfl) (by kernel_rfl) (by kernel_rfl) (by kernel_rfl) (by kernel_rfl) (by kernel_rfl), ⟨_, k40, by kernel_rfl, _, rfl⟩, Mine.kns KX 3 tg (by kernel_rfl) (by kernel_rfl) (by kernel_rfl)⟩
             iter := ⟨Mine.kns KX 3 tg (by kernel_rfl) (by kernel_rfl) (by kernel_rfl), Mine.kns KX 0 tb (by kernel_rfl) (by kernel_rfl) (by kernel_rfl)⟩
             next := ⟨Mine.kns KX 3 tg (by kernel_rfl) (by kernel_rfl) (by kernel_rfl), Mine.kns KX 0 tb (by kernel_rfl) (by kernel_rfl) (by kernel_rfl)⟩ }
    laid := ⟨135, _, _, Mine.kns KX 3 tg (by kernel_rfl) (by kernel_rfl) (by kernel_rfl), Mine.kfn KX 135 134 _ (by kernel_rfl) (by kernel_rfl) (by kernel_rfl) (by kernel_rfl) (by kernel_rfl) (by kernel_rfl)⟩
    word := Mine.kdf KX 104 103 _ (Mine.kns KX 3 tg (by kernel_rfl) (by kernel_rfl) (by kernel_rfl)) (by kernel_rfl) (by kernel_rfl) (by kernel_rfl) (by kernel_rfl) (by kernel_rfl) (by kernel_rfl)
    bare := Mine.kdf KX 109 108 _ (Mine.kns KX 3 tg (by kernel_rfl) (by kernel_rfl) (by kernel_rfl)) (by kernel_rfl) (by kernel_rfl) (by kernel_rfl) (by kernel_rfl) (by kernel_rfl) (by kernel_rfl)
    part := Mine.kdf KX 116 115 _ (Mine.kns KX 3 tg (by kernel_rfl) (by kernel_rfl) (by kernel_rfl)) (by kernel_rfl) (by kernel_rfl) (by kernel_rfl) (by kernel_rfl) (by kernel_rfl) (by kernel_rfl)
    reck := Mine.kdf KX 123 122 _ (Mine.kns KX 3 tg (by kernel_rfl) (by kernel_rfl) (by kernel_rfl)) (by kernel_rfl) (by kernel_rfl) (by kernel_rfl) (by kernel_rfl) (by kernel_rfl) (by kernel_rfl)
    ords := Mine.kdf KX 128 127 _ (Mine.kns KX 3 tg (by kernel_rfl) (by kernel_rfl) (by kernel_rfl)) (by kernel_rfl) (by kernel_rfl) (by kernel_rfl) (by kernel_rfl) (by kernel_rfl) (by kernel_rfl)
    p257 := Mine.kdf KX 79 78 _ (Mine.kns KX 3 tg (by kernel_rfl) (by kernel_rfl) (by kernel_rfl)) (by kernel_rfl) (by kernel_rfl) (by kernel_rfl) (by kernel_rfl) (by kernel_rfl) (by kernel_rfl)
    len := ⟨Mine.kns KX 3 tg (by kernel_rfl) (by kernel_rfl) (by kernel_rfl), Mine.kns KX 0 tb (by kernel_rfl) (by kernel_rfl) (by kernel_rfl)⟩
    range := ⟨Mine.kns KX 3 tg (by kernel_rfl) (by kernel_rfl) (by kernel_rfl), Mine.kns KX 0 tb (by kernel_rfl) (by kernel_rfl) (by kernel_rfl)⟩
    sum := ⟨Mine.kns KX 3 tg (by kernel_rfl) (by kernel_rfl) (by kernel_rfl), Mine.kns KX 0 tb (by kernel_rfl) (by kernel_rfl) (by kernel_rfl)⟩
    enum := ⟨Mine.kns KX 3 tg (by kernel_rfl) (by kernel_rfl) (by kernel_rfl), Mine.kns KX 0 tb (by kernel_rfl) (by kernel_rfl) (by kernel_rfl)⟩
    zip := ⟨Mine.kns KX 3 tg (by kernel_rfl) (by kernel_rfl) (by kernel_rfl), Mine.kns KX 0 tb (by kernel_rfl) (by kernel_rfl) (by kernel_rfl)⟩
    sorted := ⟨Mine.kns KX 3 tg (by kernel_rfl) (by kernel_rfl) (by kernel_rfl), Mine.kns KX 0 tb (by kernel_rfl) (by kernel_rfl) (by kernel_rfl)⟩
    chr := ⟨Mine.kns KX 3 tg (by kernel_rfl) (by kernel_rfl) (by kernel_rfl), Mine.kns KX 0 tb (by kernel_rfl) (by kernel_rfl) (by kernel_rfl)⟩ }
  have fa := Mine.kfn KX 140 139 10 (by kernel_rfl) (by kernel_rfl) (by kernel_rfl) (by kernel_rfl) (by kernel_rfl) (by kernel_rfl)
  show wpAny _ _ (call (.ref 140) [.ref 141]) _ _ _
  refine wpAny_mono (Mine.fin1 (mg := mg) (mb := mb) ⟨tg, tb, tl⟩ fa top ok hsz hg (Nat.lt_of_lt_of_le (by decide) htk) (by assumption) (by assumption)) (fun v s' q => Mine.good_true (fun _ => rfl) (by kernel_rfl) q) fun _ _ f => False.elim f
